/- What the laws on the reader share: rows that came in, bytes of the call's own, the reader set up over them. -/
import Derived.Test.Qxb6002696aClone
import Derived.Test.Qxb6002696aPack
import Derived.Test.Qxb6002696aRead5
namespace Go.Proofs.Qxb6002696a
open Go.RowKit
set_option linter.unusedVariables false

def u16v (b : Nat) : Value := .int .u16 (b : Int)

/-- A row that came in, told cell by cell. -/
def InAt (w : World) (a : Option Addr) (xs : List Value) : Prop := ∀ j u, xs[j]? = some u → ∃ x, a = some x ∧ w.cell? (x.add j) = some u
theorem Came.inAt {w : World} {a : Option Addr} {len : Nat} {xs : List Value} (h : Came w a len xs) : InAt w a xs := by
  intro j u hj
  obtain ⟨hl, ⟨rfl, rfl⟩ | ⟨x, rfl, hc⟩⟩ := h
  · obtain rfl : xs = [] := List.eq_nil_of_length_eq_zero hl
    simp at hj
  · exact ⟨x, rfl, hc j u hj⟩
theorem Came.below {w w' : World} {a : Option Addr} {len : Nat} {xs : List Value} (h : Came w a len xs) (hb : Below w.heap.size w w') : Came w' a len xs := by
  obtain ⟨hl, h0 | ⟨x, rfl, hc⟩⟩ := h
  · exact ⟨hl, .inl h0⟩
  · exact ⟨hl, .inr ⟨x, rfl, fun j u hj => (hb.cell (World.block_lt_of_cell? w _ (hc j u hj))).trans (hc j u hj)⟩⟩

/-- A list of bytes in memory: the call's own row, from block 'base' on. -/
def Wb (w : World) (base : Nat) (ao : Option Addr) (cap : Nat) (ys : List Nat) : Prop := w.ownsRow base 5 1 (.slice ao ys.length cap) ys.length (ys.map u8v)

/-- 'b = append(b, y)': the row grows by one byte. -/
theorem wpList_append_byte (w0 : World) {ops : Array Oper} {rest : List Oper} {o : Oper} {a : Act} {Q : Exit → Act → World → Prop} (hgd : o.guard = none) (s x : Operand)
    (ho : o.op = .call { callee := .builtin .append, args := #[s, x], argTypes := #[34, 34] }) (base : Nat) (ao : Option Addr) (cap : Nat) (cs : List Nat) (b : Nat)
    (hs : a.eval s = .slice ao cs.length cap) (hw : Wb w0 base ao cap cs) (hx : a.eval x = .slice (some ⟨w0.heap.size, 0, none⟩) 1 1) (hl : cs.length + 1 ≤ 1000000000) (hbase : base ≤ w0.heap.size)
    (hK : ∀ ao' cap' w', Wb w' base ao' cap' (cs ++ [b]) → Below base w0 w' → wpList Try.prog ops Q rest (a.put o.dst (.slice ao' (cs.length + 1) cap')) w') :
    wpList Try.prog ops Q (o :: rest) a (w0.alloc (.cells #[.int .u8 (b : Int)] 5)) := by
  obtain ⟨i0, hi, hz0, hz1, hz2⟩ := info_parts Try.info5
  have hown : w0.ownsRow base 5 1 (.slice ao cs.length cap) cs.length (cs.map u8v) := hw
  refine wpList_append_own _ hgd s x 34 ho base 5 i0 (.int .u8 0) 1 1 Try.underlying34 hi hz0 hz1 hz2 rfl (by decide) _ _ _ hs (hown.alloc _) ⟨w0.heap.size, 0, none⟩ 1 1 [u8v b] hx rfl ?_ ?_ (by unfold maxLen; omega) (by omega) (by simp; omega) ?_
  · intro j u hj
    match j, hj with
    | 0, hj => simp at hj; subst hj; simp [Addr.add, u8v]
  · intro u hu; simp at hu; subst hu; rfl
  · intro v' w' hown' hgrow _
    have hbel : Below base w0 w' := ((Below.refl _ _).alloc hbase _).grown hgrow (by simp; omega) (fun k hk => (hown.lt k hk).1)
    rcases hown'.2 with ⟨_, h0⟩ | ⟨g, cap', cur, hv, _⟩
    · omega
    · subst hv
      refine hK _ _ _ ?_ hbel
      unfold Wb
      rw [List.length_append, List.map_append]
      exact hown'

/-- The clone of a row that is not nil is not nil. -/
theorem clone18_some (x : Addr) (len cap : Nat) (xs : List Value) (w : World) (hl : xs.length = len) (hc : ∀ j u, xs[j]? = some u → w.cell? (x.add j) = some u) (hlen : len ≤ 1048576) (hsh : ∀ u ∈ xs, ∃ n, u = .int .u8 n) :
    Calls Try.prog 18 #[.slice (some x) len cap] w fun e w' => e = .returned (.slice (some ⟨w.heap.size, 0, none⟩) len len) ∧ w'.ownsRow w.heap.size 5 1 (.slice (some ⟨w.heap.size, 0, none⟩) len len) len xs ∧ Below w.heap.size w w' := by
  obtain ⟨i0, hi, hz0, hz1, hz2⟩ := info_parts Try.info5
  have hk := fun w a n c => Lib.run_eql_slice_nil (P := Try.prog) w 34 5 a n c 0 0 Try.underlying34
  go_enter Try.func18, Try.ntmps18
  go_wp2_with (first | (at_make; refine wpList_make_full _ rfl _ _ 34 rfl w.heap.size 5 i0 (.int .u8 0) 1 Try.underlying34 hi hz0 hz1 _ _ _ _ len rfl rfl rfl rfl ?_ ?_ ?_ ?_) | go_in)
  · rw [hz2]; omega
  · unfold maxLen; omega
  · exact Nat.le_refl _
  · intro w1 hown hgrow
    have hown0 : w1.ownsRow w.heap.size 5 1 (.slice (some ⟨w.heap.size, 0, none⟩) len len) len (half xs (.int .u8 0) 0) := by
      rw [half_zero, hl, ← toList_madeCells_one]; simpa using hown
    clear hown
    have HL : Hid (xs.length = len) := hl
    clear hl
    go_wp2
    go_loopw [4] (fun i wr => ∃ k : Nat, k ≤ len ∧ i = .int .i64 k ∧ wr.ownsRow w.heap.size 5 1 (.slice (some ⟨w.heap.size, 0, none⟩) len len) len (half xs (.int .u8 0) k) ∧ Below w.heap.size w wr) (fun i _ => len - (intOf i).toNat)
    case atStart => exact ⟨0, Nat.zero_le _, rfl, hown0, (Below.refl _ _).grown hgrow (Nat.le_refl _) (by simp)⟩
    case round =>
      obtain ⟨k, hk1, rfl, hown, hb⟩ := hrel
      by_cases hlt : k < len
      · obtain ⟨u, old, hu, hcx, hco, hfo, R1, R2⟩ := clone_step HL.out hlt hc hown hb
        obtain ⟨n, rfl⟩ := hsh u hu
        clear hown hu hown0 hgrow
        go_wp2
        go_roundw
        case rel => exact ⟨k + 1, by omega, by go_num, R1, R2⟩
        case measure => simp [intOf]; omega
      · go_wp2
        go_ret
        have : k = len := by omega
        subst this
        rw [← HL.out] at hown
        rw [half_all, HL.out] at hown
        exact ⟨rfl, hown, hb⟩

/-- The reader over the bytes ys, laid in a new block. -/
theorem rd_new {w : World} {base cap g n : Nat} {ys : List Nat} (hn : ys.length = n) (h : w.ownsRow base 5 1 (.slice (some ⟨g, 0, none⟩) n cap) n (ys.map u8v)) (h256 : ∀ y ∈ ys, y < 256) (hl : n ≤ 1000000) (p : Nat) (hp : p ≤ 7) :
    Rd (w.alloc (rdCells g n cap (p, false))) w.heap.size g n cap (fun j => ys[j]?.getD 0) (p, false) ∧ base ≤ g ∧ g < w.heap.size := by
  rcases h.2 with ⟨h0, _⟩ | ⟨g', cap', cur, hv, hg, hcur, hroom, _⟩
  · cases h0
  · cases hv
    have hlt : g < w.heap.size := (Array.getElem?_eq_some_iff.1 hcur).1
    refine ⟨⟨heap_alloc_new w _, by unfold Bd; simp only; omega, hl, hroom, ⟨fun j hj => ?_, fun j => ?_⟩, by omega⟩, hg, hlt⟩
    · rw [World.cell?_of_block (w := w) (a := ⟨g, j, none⟩) (Below.heap_alloc w _ g hlt), h.cellAt j (by omega)]
      have hjy : j < ys.length := by omega
      simp only [List.getElem?_map, List.getElem?_eq_getElem hjy, Option.map_some, Option.getD_some, u8v]
    · show ys[j]?.getD 0 < 256
      cases hj : ys[j]? with
      | none => decide
      | some y => exact h256 y (List.mem_of_getElem? hj)

/-- The bytes that were packed show the bits that were written. -/
theorem agree_pack {by' : List Nat} {E : List Bool} {ys : List Nat} {L : Nat} (hp : Packs by' E E.length) (hy : ∀ j, 8 * j < L → 8 * j < E.length → ys[j]?.getD 0 = by'[j]?.getD 0) : Agree (bitOf fun j => ys[j]?.getD 0) L E := by
  intro i b hi hb
  have hil : i < E.length := (List.getElem?_eq_some_iff.1 hb).1
  have := hp.2 i
  rw [List.take_of_length_le (Nat.le_refl _), hb] at this
  unfold bitOf
  simp only
  rw [hy (i / 8) (by omega) (by omega)]
  exact this

/-! ### lengths -/
theorem wOpens_len (sizes : List Nat) (v : Nat) (hs : ∀ z ∈ sizes, z ≤ 255) : ∀ (ps : List Bool) (i : Nat) (bs : List Bool), (wOpens sizes v ps i bs).length ≤ bs.length + 2063 * ps.length
  | [], _, bs => by simp [wOpens]
  | b :: ps, i, bs => by
    rw [wOpens]
    have hsz : sizes[i]?.getD 0 ≤ 255 := by
      cases hg : sizes[i]? with
      | none => simp
      | some z => simpa using hs z (List.mem_of_getElem? hg)
    have h1 := wOpens_len sizes v hs ps (i + 1) (if b = true then wOpen bs (sizes[i]?.getD 0) v else bs)
    have h2 := wOpen_len bs (sizes[i]?.getD 0) v hsz
    have h3 : (if b = true then wOpen bs (sizes[i]?.getD 0) v else bs).length ≤ bs.length + 2063 := by
      split
      · exact h2
      · omega
    rw [List.length_cons]
    omega
theorem wExt_len (bs pres : List Bool) (sizes : List Nat) (long : Bool) (v : Nat) (hs : ∀ z ∈ sizes, z ≤ 255) : (wExt bs pres sizes long v).length ≤ bs.length + 24 + 2064 * pres.length := by
  unfold wExt
  have h1 := wOpens_len sizes v hs pres 0 (wHead bs pres.length long ++ pres)
  have h2 := wHead_len bs pres.length long
  rw [List.length_append] at h1
  omega
theorem wExt_pos (bs pres : List Bool) (sizes : List Nat) (long : Bool) (v : Nat) (h : 1 ≤ pres.length) : 1 ≤ (wExt bs pres sizes long v).length := by
  have := (wOpens_pre sizes v pres 0 (wHead bs pres.length long ++ pres)).length_le
  rw [List.length_append] at this
  unfold wExt
  omega
/-- 'zzEncExtensions' where the lengths bear names of their own. -/
theorem ext_wr' (base : Nat) (ao : Option Addr) (cap v l1 l2 : Nat) (bs pres : List Bool) (sizes : List Nat) (ap az : Option Addr) (capp capz : Nat) (long : Bool) (w : World) (hw : Wr w base ao cap bs) (hb : base ≤ w.heap.size)
    (hp : At w base ap (pres.map Value.bool)) (hz : At w base az (sizes.map u16v)) (HL1 : Hid (pres.length = l1)) (HL2 : Hid (sizes.length = l2)) (h1 : 1 ≤ l1) (h2 : l1 ≤ 200) (h3 : l2 ≤ 200) (hs : ∀ z ∈ sizes, z ≤ 255) (hv : v < 256) (hl : bs.length ≤ 1000000) :
    Calls Try.prog 19 #[.slice ao bs.length cap, .slice ap l1 capp, .slice az l2 capz, .bool long, .int .u8 (v : Int)] w fun e w' =>
      ∃ ao' cap' cs, e = .returned (.slice ao' cs.length cap') ∧ Wr w' base ao' cap' cs ∧ Below base w w' ∧ Hid (cs = wExt bs pres sizes long v) := by
  have e1 := HL1.out
  have e2 := HL2.out
  subst e1 e2
  exact ext_wr base ao cap v bs pres sizes ap az capp capz long w hw hb hp hz h1 h2 h3 hs hv hl
theorem Wr.at {w : World} {base cap : Nat} {ao : Option Addr} {bs : List Bool} (h : Wr w base ao cap bs) : At w w.heap.size ao (bs.map bv) := by
  obtain ⟨a, c, e, hA⟩ := at_of_owns h
  cases e
  exact hA
/-- The bytes behind the tail. -/
theorem Wb.some {w : World} {base cap : Nat} {ao : Option Addr} {ys : List Nat} (h : Wb w base ao cap ys) (hl : 1 ≤ ys.length) : ∃ g, ao = some ⟨g, 0, none⟩ := by
  rcases h.2 with ⟨_, h0⟩ | ⟨g, c, cur, e, _⟩
  · omega
  · cases e
    exact ⟨g, rfl⟩
/-- All that the reader did lies in new memory. -/
theorem below_end {B r : Nat} {w w1 w2 w3 : World} {o : Obj} (h : Below B w w1) (hB : B ≤ w1.heap.size) (hr : r = w1.heap.size) (h2 : (w1.alloc o).grownBy w2 (some r)) (h3 : w2.grownBy w3 (some r)) : Below B w w3 := by
  have a := h.alloc hB o
  have b := a.grown h2 (by simp; omega) (by intro k hk; cases hk; omega)
  have hs := h2.size
  simp at hs
  exact b.grown h3 (by omega) (by intro k hk; cases hk; omega)
end Go.Proofs.Qxb6002696a
