/- The proof of the given statement on FnSkipExtensionsRefusesACutEncoding; the frame after the given shells. -/
import Derived.Test.Qxb6002696aHead
import Derived.Test.Qxb6002696aFrame
import Derived.Test.Qxb6002696aFnExtCut
namespace Go.Proofs.Qxb6002696a.fnSkipExtensionsRefusesACutEncoding
open Go.ChangeShapes Go.WideShapes Go.ChangeAt Go.RowKit
open Go.ChangeMaps (open_string shut_string)
set_option linter.unusedVariables false

theorem walk (a0 : Int) (a1 : Option Addr) (len1 cap1 : Nat) (z1 : Nat → Bool) (a2 : Option Addr) (len2 cap2 : Nat) (z2 : List Int) (a3 : Bool) (a4 : Int) (a5 : Int) (w : World) (w0 : (Lit.int .u8 a0).wf = true) (w1 : IsBools w a1 len1 cap1 z1) (w2 : IsRow .u16 w a2 len2 cap2 z2) (w4 : (Lit.int .u8 a4).wf = true) (w5 : (Lit.int .u32 a5).wf = true) :
    Calls Try.prog 6 #[.int .u8 a0, .slice a1 len1 cap1, .slice a2 len2 cap2, .bool a3, .int .u8 a4, .int .u32 a5] w fun e w' => e = .returned (.bool true) ∧ Below w.heap.size w w' := by
  obtain ⟨p0, p1⟩ := wf_u8 w0
  obtain ⟨v0, v1⟩ := wf_u8 w4
  obtain ⟨c0, c1⟩ := wf_u32 w5
  obtain ⟨p, rfl⟩ := Int.eq_ofNat_of_zero_le p0
  obtain ⟨v, rfl⟩ := Int.eq_ofNat_of_zero_le v0
  obtain ⟨c, rfl⟩ := Int.eq_ofNat_of_zero_le c0
  obtain ⟨pres, i1, m1⟩ := came_bools w1
  obtain ⟨sizes, i2, b16, m2⟩ := came_ints (fun z hz => wf_u16 hz) w2
  exact fn6_walk p v c a1 a2 len1 cap1 len2 cap2 a3 pres sizes w i1 i2 (by omega) (by omega) (by omega) (fun z hz => by have := b16 z hz; omega) m1 m2

set_option maxRecDepth 100000 in
theorem lifted (os : Os) (started : os.Started) (H : Type) (enc : TypeId × Value → H) :
    ReturnsInHanded {} Try.checked os 6 .any (Rows.fnSkipExtensionsRefusesACutEncodingSpec.pre6 enc Try.prog Try.f6 Rows.fnSkipExtensionsRefusesACutEncodingRow.domain false) (Rows.fnSkipExtensionsRefusesACutEncodingSpec.post enc Try.prog Try.f6 false true false false) := by
  refine returnsInHanded_of_change (C := Try.checked) Try.own started (by kernel_rfl) Try.func6
    (ChangeSpec.witness6 (enc := enc) (C := Try.checked) false ⟨#[], #[.int .u8 0, .slice none 0 0, .slice none 0 0, .bool false, .int .u8 0, .int .u32 0], []⟩ 8 (by kernel_rfl) (by kernel_rfl) (by kernel_rfl) (by kernel_rfl)) ?_
  intro W base args ds gs before hval0 hW hcnd _
  have hval : ∀ (j : Nat) t v, Try.f6.params[j]? = some t → args[j]? = some v → Value.okWide Try.prog W .any base t v := hval0
  have hW' := hW
  obtain ⟨p, q, hA0, hV, rfl, hfz, hnd⟩ := hW
  have hA : DataW.TrodAll enc Try.prog W 0 (fun _ => true) true Try.f6.params.toList args.toList ds p := hA0
  rw [Try.params6] at hA hval
  obtain ⟨v0, vs0, d0, ds0, p0, q0, hargs, rfl, rfl, h0, r0⟩ := trodAll_cons hA
  obtain ⟨v1, vs1, d1, ds1, p1, q1, rfl, rfl, rfl, h1, r1⟩ := trodAll_cons r0
  obtain ⟨v2, vs2, d2, ds2, p2, q2, rfl, rfl, rfl, h2, r2⟩ := trodAll_cons r1
  obtain ⟨v3, vs3, d3, ds3, p3, q3, rfl, rfl, rfl, h3, r3⟩ := trodAll_cons r2
  obtain ⟨v4, vs4, d4, ds4, p4, q4, rfl, rfl, rfl, h4, r4⟩ := trodAll_cons r3
  obtain ⟨v5, vs5, d5, ds5, p5, q5, rfl, rfl, rfl, h5, r5⟩ := trodAll_cons r4
  obtain ⟨rfl, rfl, rfl⟩ := trodAll_nil r5
  obtain rfl : args = #[v0, v1, v2, v3, v4, v5] := by cases args; simp_all
  obtain ⟨rfl, rfl⟩ := trodVars_none hV
  obtain ⟨a0, rfl, rfl, rfl, w0⟩ := open_int Try.underlying5 (hval 0 5 v0 rfl rfl) h0
  obtain ⟨a1, len1, cap1, rfl⟩ := okWide_slice Try.underlying32 (hval 1 32 v1 rfl rfl)
  have k1 := h1
  have lt1 : ∀ x ∈ p1, x.block < W.heap.size := by obtain ⟨m, hm⟩ := k1; exact DataW.trod_lt m _ _ _ hm
  obtain ⟨z1, w1⟩ : ∃ B, IsBools W a1 len1 cap1 B := by
    obtain ⟨fuel, hf⟩ := h1
    rcases Go.Deep.open_bools Try.underlying32 Try.underlying4 (by kernel_rfl) hf with ⟨hcs, _⟩ | ⟨x, l, c, B, hcs, _, hl, hm, _, hcell⟩
    · simp [Value.cells] at hcs
      obtain ⟨rfl, rfl, rfl⟩ := hcs
      exact ⟨fun _ => false, .inl ⟨rfl, rfl, rfl⟩⟩
    · simp [Value.cells] at hcs
      obtain ⟨rfl, rfl, rfl⟩ := hcs
      exact ⟨B, .inr ⟨_, rfl, hl, hm, hcell⟩⟩
  obtain ⟨a2, len2, cap2, rfl⟩ := okWide_slice Try.underlying33 (hval 2 33 v2 rfl rfl)
  have k2 := h2
  have lt2 : ∀ x ∈ p2, x.block < W.heap.size := by obtain ⟨m, hm⟩ := k2; exact DataW.trod_lt m _ _ _ hm
  obtain ⟨z2, w2⟩ : ∃ zs, IsRow .u16 W a2 len2 cap2 zs := by
    obtain ⟨fuel, hf⟩ := h2
    rcases open_ints Try.underlying33 Try.underlying36 (by kernel_rfl) hf with ⟨hcs, _⟩ | ⟨x, l, c, zs, hcs, _, hl, hm, hz, _, hcell, hwz⟩
    · simp [Value.cells] at hcs
      obtain ⟨rfl, rfl, rfl⟩ := hcs
      exact ⟨[], .inl ⟨rfl, rfl, rfl, rfl⟩⟩
    · simp [Value.cells] at hcs
      obtain ⟨rfl, rfl, rfl⟩ := hcs
      exact ⟨zs, .inr ⟨_, rfl, hl, hm, by simpa using hz, hcell, hwz⟩⟩
  obtain ⟨a3, rfl, rfl, rfl⟩ := open_bool Try.underlying4 (hval 3 4 v3 rfl rfl) h3
  obtain ⟨a4, rfl, rfl, rfl, w4⟩ := open_int Try.underlying5 (hval 4 5 v4 rfl rfl) h4
  obtain ⟨a5, rfl, rfl, rfl, w5⟩ := open_int Try.underlying25 (hval 5 25 v5 rfl rfl) h5
  clear hA0 hval0
  refine (walk a0 a1 len1 cap1 z1 a2 len2 cap2 z2 a3 a4 a5 W w0 w1 w2 w4 w5).mono fun e W' ⟨he, bel⟩ => ?_
  subst he
  exact ⟨_, rfl, _, _, _, [], _, [], hW', trodAll_mk1 (shut_bool Try.underlying4 _), (trodAll_cons_mk (shut_int Try.underlying5 w0) (trodAll_cons_mk (Below.trod Try.laidOut (by kernel_rfl) (of_decide_eq_true (by kernel_rfl)) k1 bel lt1) (trodAll_cons_mk (Below.trod Try.laidOut (by kernel_rfl) (of_decide_eq_true (by kernel_rfl)) k2 bel lt2) (trodAll_cons_mk (shut_bool Try.underlying4 _) (trodAll_cons_mk (shut_int Try.underlying5 w4) (trodAll_cons_mk (shut_int Try.underlying25 w5) trodAll_mk0)))))), rfl, bel.frame _, fun h => by cases h⟩

/-- The row's closed facts; those that read the dump's head come from the head's own text. -/
theorem closed : joinedFacts Try.prog 6 Try.f6 Rows.fnSkipExtensionsRefusesACutEncodingSpec Rows.fnSkipExtensionsRefusesACutEncodingRow = true := by
  unfold joinedFacts
  rw [head_enter, head_final, head_make]
  kernel_rfl

theorem over : Rows.fnSkipExtensionsRefusesACutEncodingRow.holds Try.pinned (OpenSpec.ofChange Rows.fnSkipExtensionsRefusesACutEncodingSpec) :=
  OpenClaim.holds_of_wide 6 Try.f6 rfl rfl rfl rfl rfl rfl rfl ⟨rfl, rfl, rfl, rfl, rfl⟩ rfl rfl rfl rfl rfl (by kernel_rfl) Try.func6 closed
    (of_decide_eq_true (by kernel_rfl)) (by unfold Func.isWrapper; first | (rw [if_pos (by decide +kernel)]; kernel_rfl) | (rw [if_neg (by decide +kernel)]; exact ⟨rfl, rfl⟩))
    (fun os started H enc _ => lifted os started H enc)

/-- ████ THE STATEMENT ████ -/
theorem proved : Rows.FnSkipExtensionsRefusesACutEncodingSaid := over
#print axioms proved
end Go.Proofs.Qxb6002696a.fnSkipExtensionsRefusesACutEncoding
