/- zzEncExtensions (19): the extension additions as the writer lays them. -/
import Derived.Test.Qxb6002696aWrite
namespace Go.Proofs.Qxb6002696a
open Go.RowKit
set_option linter.unusedVariables false

/-- A row that is read: its elements' cells, from the head of a block below B. -/
def At (w : World) (B : Nat) (a : Option Addr) (xs : List Value) : Prop := ∀ j u, xs[j]? = some u → ∃ g, a = some ⟨g, 0, none⟩ ∧ g < B ∧ w.cell? ⟨g, j, none⟩ = some u
theorem At.below {w w' : World} {B : Nat} {a : Option Addr} {xs : List Value} (h : At w B a xs) (hb : Below B w w') : At w' B a xs := by
  intro j u hj
  obtain ⟨g, rfl, hg, hc⟩ := h j u hj
  exact ⟨g, rfl, hg, (hb.cell (p := ⟨g, j, none⟩) hg).trans hc⟩
theorem At.mono {w : World} {B B' : Nat} {a : Option Addr} {xs : List Value} (h : At w B a xs) (hb : B ≤ B') : At w B' a xs := by
  intro j u hj
  obtain ⟨g, rfl, hg, hc⟩ := h j u hj
  exact ⟨g, rfl, by omega, hc⟩
/-- The call's own row, read. -/
theorem at_of_owns {w : World} {base n : Nat} {e : TypeId} {v : Value} {xs : List Value} (h : w.ownsRow base e 1 v n xs) : ∃ a cap, v = .slice a n cap ∧ At w w.heap.size a xs := by
  rcases h.2 with ⟨rfl, rfl⟩ | ⟨g, cap, cur, rfl, _, hg, _⟩
  · have hl := h.1
    obtain rfl : xs = [] := List.eq_nil_of_length_eq_zero (by omega)
    exact ⟨none, 0, rfl, fun j u hj => by simp at hj⟩
  · refine ⟨_, _, rfl, fun j u hj => ⟨g, rfl, (Array.getElem?_eq_some_iff.1 hg).1, ?_⟩⟩
    have hjl := (List.getElem?_eq_some_iff.1 hj).1
    rw [h.cellAt j (by have := h.1; omega)]
    exact hj

theorem wOpen_len (bs : List Bool) (n v : Nat) (hn : n ≤ 255) : (wOpen bs n v).length ≤ bs.length + 2063 := by
  unfold wOpen
  rw [List.length_append, wFill_length]
  have := wLength_len bs n
  omega
theorem wHead_len (bs : List Bool) (n : Nat) (long : Bool) : (wHead bs n long).length ≤ bs.length + 24 := by
  unfold wHead
  split
  · simp [bitsN_length]
  · have := wLength_len (bs ++ bitsN 1 1) n
    simp [bitsN_length] at this
    omega

set_option maxRecDepth 100000 in
set_option maxHeartbeats 600000 in
theorem ext_wr_short (base : Nat) (ao : Option Addr) (cap v n : Nat) (bs pres : List Bool) (sizes : List Nat) (ap az : Option Addr) (capp capz : Nat) (w : World) (hw : Wr w base ao cap bs) (hb : base ≤ w.heap.size)
    (hp : At w base ap (pres.map Value.bool)) (hz : At w base az (sizes.map fun z : Nat => Value.int .u16 (z : Int))) (HN : Hid (pres.length = n)) (h1 : 1 ≤ n) (h2 : n ≤ 200) (h3 : sizes.length ≤ 200) (hs : ∀ z ∈ sizes, z ≤ 255) (hv : v < 256) (hl : bs.length ≤ 1000000) (hc : n ≤ 64) :
    Calls Try.prog 19 #[.slice ao bs.length cap, .slice ap n capp, .slice az sizes.length capz, .bool false, .int .u8 (v : Int)] w fun e w' =>
      ∃ ao' cap' cs, e = .returned (.slice ao' cs.length cap') ∧ Wr w' base ao' cap' cs ∧ Below base w w' ∧ Hid (cs = wExt bs pres sizes false v) := by
  have hhl := wHead_len bs n false
  go_enter Try.func19, Try.ntmps19
  go_wp2_with fail
  refine (put_wr base ao cap 1 0 bs w hw hb (by omega) (by omega) (by omega)).mono ?_
  rintro e w1 ⟨ao1, cap1, c1, rfl, hw1, hb1, H1⟩
  have hs1 := hb1.size
  have hcl1 : c1.length ≤ bs.length + 1 := by rw [H1.out, List.length_append, bitsN_length]; exact Nat.le_refl _
  go_wp2_with fail
  have hsub : (n : Int) - 1 = ((n - 1 : Nat) : Int) := by omega
  rw [hsub]
  refine (put_wr base ao1 cap1 6 (n - 1) c1 w1 hw1 (by omega) (by omega) (by omega) (by omega)).mono ?_
  rintro e w2 ⟨ao2, cap2, c2, rfl, hw2, hb2, H2⟩
  have hb12 := hb1.trans hb2
  have HH : Hid (c2 = wHead bs n false) := by
    show _ = _
    rw [H2.out, H1.out, wHead, if_pos ⟨hc, rfl⟩]
  clear H1 H2 hsub
  have hhc : c2.length ≤ bs.length + 24 := by rw [HH.out]; exact hhl
  have hp2 := hp.below hb12
  have hz2 := hz.below hb12
  clear hw hp hz
  go_wp2
  go_loopw [0, 12] (fun s i wr => ∃ (k : Nat) (ao' : Option Addr) (cap' : Nat) (cs : List Bool), k ≤ n ∧ cs.length ≤ bs.length + 24 + k ∧ i = .int .i64 (k : Int) ∧ s = .slice ao' cs.length cap' ∧ Wr wr base ao' cap' cs ∧ Below base w wr ∧ Below base w2 wr ∧ Hid (cs = wHead bs n false ++ pres.take k)) (fun _ i _ => n - (intOf i).toNat)
  case atStart => exact ⟨0, ao2, cap2, c2, Nat.zero_le _, by omega, rfl, rfl, hw2, hb12, Below.refl _ _, by show _ = _; rw [HH.out]; simp⟩
  case round =>
    obtain ⟨k, ao', cap', cs, hk, hcl, rfl, rfl, hw', hbel, hbel2, HB⟩ := hrel
    have hws := hbel.size
    by_cases hlt : k < n
    · have hkp : k < pres.length := by rw [HN.out]; exact hlt
      obtain ⟨gp, hap, hgp, hcp⟩ := (hp2.below hbel2) k (.bool pres[k]) (by simp [List.getElem?_eq_getElem hkp])
      have HB2 : Hid (cs ++ bitsN (pres[k]).toNat 1 = wHead bs n false ++ pres.take (k + 1)) := by
        show _ = _
        rw [HB.out, bitsN_one, List.take_succ_eq_append_getElem hkp, List.append_assoc]
      clear HB hp2
      generalize pres[k] = b at *
      subst hap
      have hbn : b.toNat < 2 := b.toNat_lt
      go_wp2_with (first | (go_at_call 34; refine (b2u b _).mono ?_; rintro e w3 ⟨rfl, rfl⟩) | (go_at_call 20; refine (put_wr base ao' cap' 1 b.toNat cs _ hw' (by omega) (by omega) (by omega) (by omega)).mono ?_; rintro e w3 ⟨ao3, cap3, c3, rfl, hw3, hb3, H3⟩))
      have hcl3 : c3.length ≤ cs.length + 1 := by rw [H3.out, List.length_append, bitsN_length]; exact Nat.le_refl _
      go_roundw
      case rel => exact ⟨k + 1, ao3, cap3, c3, by omega, by omega, by go_num, rfl, hw3, hbel.trans hb3, hbel2.trans hb3, by show _ = _; rw [H3.out]; exact HB2.out⟩
      case measure => simp [intOf]; omega
    · obtain rfl : k = n := by omega
      have HB2 : Hid (cs = wHead bs k false ++ pres) := by
        show _ = _
        rw [HB.out, List.take_of_length_le (by rw [HN.out]; exact Nat.le_refl _)]
      clear HB
      have hp3 := hp2.below hbel2
      have hz3 := hz2.below hbel2
      clear hp2 hz2
      go_wp2
      go_loopw [0, 13, 14] (fun s i _ wr' => ∃ (j : Nat) (ao' : Option Addr) (cap' : Nat) (ds : List Bool), j ≤ k ∧ ds.length ≤ bs.length + 24 + k + 2063 * j ∧ i = .int .i64 (j : Int) ∧ s = .slice ao' ds.length cap' ∧ Wr wr' base ao' cap' ds ∧ Below base w wr' ∧ Below base wr wr' ∧ Hid (wOpens sizes v (pres.drop j) j ds = wOpens sizes v pres 0 cs)) (fun _ i _ _ => k - (intOf i).toNat)
      case atStart => exact ⟨0, ao', cap', cs, Nat.zero_le _, by omega, rfl, rfl, hw', hbel, Below.refl _ _, rfl⟩
      case round =>
        clear hw' hbel hbel2 hcl
        obtain ⟨j, ao', cap', ds, hj, hcl, rfl, rfl, hw', hbel, hbel2, HB⟩ := hrel
        have hws := hbel.size
        by_cases hjl : j < k
        · have hjp : j < pres.length := by rw [HN.out]; exact hjl
          obtain ⟨gp, hap, hgp, hcp⟩ := (hp3.below hbel2) j (.bool pres[j]) (by simp [List.getElem?_eq_getElem hjp])
          have HB2 : Hid (wOpens sizes v (pres.drop (j + 1)) (j + 1) (if pres[j] = true then wOpen ds (sizes[j]?.getD 0) v else ds) = wOpens sizes v pres 0 cs) := by
            show _ = _
            rw [← HB.out, List.drop_eq_getElem_cons hjp, wOpens]
          clear HB
          generalize pres[j] = b at *
          subst hap
          cases b
          · simp only [Bool.false_eq_true, if_false] at HB2
            go_wp2
            go_roundw
            case rel => exact ⟨j + 1, ao', cap', ds, by omega, by omega, by go_num, rfl, hw', hbel, hbel2, HB2⟩
            case measure => simp [intOf]; omega
          · simp only [if_true] at HB2
            by_cases hjz : j < sizes.length
            · obtain ⟨gz, haz, hgz, hcz⟩ := (hz3.below hbel2) j (.int .u16 ((sizes[j] : Nat) : Int)) (by simp [List.getElem?_eq_getElem hjz])
              have hsz := hs sizes[j] (List.getElem_mem hjz)
              rw [List.getElem?_eq_getElem hjz, Option.getD_some] at HB2
              generalize sizes[j] = z at *
              subst haz
              have hol := wOpen_len ds z v hsz
              go_wp2_with (go_at_call 35; refine (open_wr base ao' cap' z v ds _ hw' (by omega) (by omega) hv (by omega)).mono ?_; rintro e w3 ⟨ao3, cap3, c3, rfl, hw3, hb3, H3⟩)
              have hcl3 : c3.length ≤ ds.length + 2063 := by rw [H3.out]; exact hol
              go_roundw
              case rel => exact ⟨j + 1, ao3, cap3, c3, by omega, by omega, by go_num, rfl, hw3, hbel.trans hb3, hbel2.trans hb3, by show _ = _; rw [H3.out]; exact HB2.out⟩
              case measure => simp [intOf]; omega
            · rw [List.getElem?_eq_none (by omega), Option.getD_none] at HB2
              have hol := wOpen_len ds 0 v (by omega)
              go_wp2_with (go_at_call 35; refine (open_wr base ao' cap' 0 v ds _ hw' (by omega) (by omega) hv (by omega)).mono ?_; rintro e w3 ⟨ao3, cap3, c3, rfl, hw3, hb3, H3⟩)
              have hcl3 : c3.length ≤ ds.length + 2063 := by rw [H3.out]; exact hol
              go_roundw
              case rel => exact ⟨j + 1, ao3, cap3, c3, by omega, by omega, by go_num, rfl, hw3, hbel.trans hb3, hbel2.trans hb3, by show _ = _; rw [H3.out]; exact HB2.out⟩
              case measure => simp [intOf]; omega
        · obtain rfl : j = k := by omega
          have HB3 : Hid (ds = wExt bs pres sizes false v) := by
            show _ = _
            have e := HB.out
            rw [List.drop_of_length_le (by rw [HN.out]; exact Nat.le_refl _), wOpens] at e
            rw [e, wExt, HN.out, HB2.out]
          clear HB HB2
          go_wp2
          go_ret
          exact ⟨_, _, _, rfl, hw', hbel, HB3⟩

set_option maxRecDepth 100000 in
set_option maxHeartbeats 600000 in
theorem ext_wr_longs (base : Nat) (ao : Option Addr) (cap v n : Nat) (bs pres : List Bool) (sizes : List Nat) (ap az : Option Addr) (capp capz : Nat) (w : World) (hw : Wr w base ao cap bs) (hb : base ≤ w.heap.size)
    (hp : At w base ap (pres.map Value.bool)) (hz : At w base az (sizes.map fun z : Nat => Value.int .u16 (z : Int))) (HN : Hid (pres.length = n)) (h1 : 1 ≤ n) (h2 : n ≤ 200) (h3 : sizes.length ≤ 200) (hs : ∀ z ∈ sizes, z ≤ 255) (hv : v < 256) (hl : bs.length ≤ 1000000) (hc : n ≤ 64) :
    Calls Try.prog 19 #[.slice ao bs.length cap, .slice ap n capp, .slice az sizes.length capz, .bool true, .int .u8 (v : Int)] w fun e w' =>
      ∃ ao' cap' cs, e = .returned (.slice ao' cs.length cap') ∧ Wr w' base ao' cap' cs ∧ Below base w w' ∧ Hid (cs = wExt bs pres sizes true v) := by
  have hhl := wHead_len bs n true
  go_enter Try.func19, Try.ntmps19
  go_wp2_with fail
  refine (put_wr base ao cap 1 1 bs w hw hb (by omega) (by omega) (by omega)).mono ?_
  rintro e w1 ⟨ao1, cap1, c1, rfl, hw1, hb1, H1⟩
  have hs1 := hb1.size
  have hcl1 : c1.length ≤ bs.length + 1 := by rw [H1.out, List.length_append, bitsN_length]; exact Nat.le_refl _
  go_wp2_with fail
  refine (length_wr base ao1 cap1 n c1 w1 hw1 (by omega) (by omega) (by omega)).mono ?_
  rintro e w2 ⟨ao2, cap2, c2, rfl, hw2, hb2, H2⟩
  have hb12 := hb1.trans hb2
  have HH : Hid (c2 = wHead bs n true) := by
    show _ = _
    rw [H2.out, H1.out, wHead, if_neg (by simp)]
  clear H1 H2
  have hhc : c2.length ≤ bs.length + 24 := by rw [HH.out]; exact hhl
  have hp2 := hp.below hb12
  have hz2 := hz.below hb12
  clear hw hp hz
  go_wp2
  go_loopw [0, 12] (fun s i wr => ∃ (k : Nat) (ao' : Option Addr) (cap' : Nat) (cs : List Bool), k ≤ n ∧ cs.length ≤ bs.length + 24 + k ∧ i = .int .i64 (k : Int) ∧ s = .slice ao' cs.length cap' ∧ Wr wr base ao' cap' cs ∧ Below base w wr ∧ Below base w2 wr ∧ Hid (cs = wHead bs n true ++ pres.take k)) (fun _ i _ => n - (intOf i).toNat)
  case atStart => exact ⟨0, ao2, cap2, c2, Nat.zero_le _, by omega, rfl, rfl, hw2, hb12, Below.refl _ _, by show _ = _; rw [HH.out]; simp⟩
  case round =>
    obtain ⟨k, ao', cap', cs, hk, hcl, rfl, rfl, hw', hbel, hbel2, HB⟩ := hrel
    have hws := hbel.size
    by_cases hlt : k < n
    · have hkp : k < pres.length := by rw [HN.out]; exact hlt
      obtain ⟨gp, hap, hgp, hcp⟩ := (hp2.below hbel2) k (.bool pres[k]) (by simp [List.getElem?_eq_getElem hkp])
      have HB2 : Hid (cs ++ bitsN (pres[k]).toNat 1 = wHead bs n true ++ pres.take (k + 1)) := by
        show _ = _
        rw [HB.out, bitsN_one, List.take_succ_eq_append_getElem hkp, List.append_assoc]
      clear HB hp2
      generalize pres[k] = b at *
      subst hap
      have hbn : b.toNat < 2 := b.toNat_lt
      go_wp2_with (first | (go_at_call 34; refine (b2u b _).mono ?_; rintro e w3 ⟨rfl, rfl⟩) | (go_at_call 20; refine (put_wr base ao' cap' 1 b.toNat cs _ hw' (by omega) (by omega) (by omega) (by omega)).mono ?_; rintro e w3 ⟨ao3, cap3, c3, rfl, hw3, hb3, H3⟩))
      have hcl3 : c3.length ≤ cs.length + 1 := by rw [H3.out, List.length_append, bitsN_length]; exact Nat.le_refl _
      go_roundw
      case rel => exact ⟨k + 1, ao3, cap3, c3, by omega, by omega, by go_num, rfl, hw3, hbel.trans hb3, hbel2.trans hb3, by show _ = _; rw [H3.out]; exact HB2.out⟩
      case measure => simp [intOf]; omega
    · obtain rfl : k = n := by omega
      have HB2 : Hid (cs = wHead bs k true ++ pres) := by
        show _ = _
        rw [HB.out, List.take_of_length_le (by rw [HN.out]; exact Nat.le_refl _)]
      clear HB
      have hp3 := hp2.below hbel2
      have hz3 := hz2.below hbel2
      clear hp2 hz2
      go_wp2
      go_loopw [0, 13, 14] (fun s i _ wr' => ∃ (j : Nat) (ao' : Option Addr) (cap' : Nat) (ds : List Bool), j ≤ k ∧ ds.length ≤ bs.length + 24 + k + 2063 * j ∧ i = .int .i64 (j : Int) ∧ s = .slice ao' ds.length cap' ∧ Wr wr' base ao' cap' ds ∧ Below base w wr' ∧ Below base wr wr' ∧ Hid (wOpens sizes v (pres.drop j) j ds = wOpens sizes v pres 0 cs)) (fun _ i _ _ => k - (intOf i).toNat)
      case atStart => exact ⟨0, ao', cap', cs, Nat.zero_le _, by omega, rfl, rfl, hw', hbel, Below.refl _ _, rfl⟩
      case round =>
        clear hw' hbel hbel2 hcl
        obtain ⟨j, ao', cap', ds, hj, hcl, rfl, rfl, hw', hbel, hbel2, HB⟩ := hrel
        have hws := hbel.size
        by_cases hjl : j < k
        · have hjp : j < pres.length := by rw [HN.out]; exact hjl
          obtain ⟨gp, hap, hgp, hcp⟩ := (hp3.below hbel2) j (.bool pres[j]) (by simp [List.getElem?_eq_getElem hjp])
          have HB2 : Hid (wOpens sizes v (pres.drop (j + 1)) (j + 1) (if pres[j] = true then wOpen ds (sizes[j]?.getD 0) v else ds) = wOpens sizes v pres 0 cs) := by
            show _ = _
            rw [← HB.out, List.drop_eq_getElem_cons hjp, wOpens]
          clear HB
          generalize pres[j] = b at *
          subst hap
          cases b
          · simp only [Bool.false_eq_true, if_false] at HB2
            go_wp2
            go_roundw
            case rel => exact ⟨j + 1, ao', cap', ds, by omega, by omega, by go_num, rfl, hw', hbel, hbel2, HB2⟩
            case measure => simp [intOf]; omega
          · simp only [if_true] at HB2
            by_cases hjz : j < sizes.length
            · obtain ⟨gz, haz, hgz, hcz⟩ := (hz3.below hbel2) j (.int .u16 ((sizes[j] : Nat) : Int)) (by simp [List.getElem?_eq_getElem hjz])
              have hsz := hs sizes[j] (List.getElem_mem hjz)
              rw [List.getElem?_eq_getElem hjz, Option.getD_some] at HB2
              generalize sizes[j] = z at *
              subst haz
              have hol := wOpen_len ds z v hsz
              go_wp2_with (go_at_call 35; refine (open_wr base ao' cap' z v ds _ hw' (by omega) (by omega) hv (by omega)).mono ?_; rintro e w3 ⟨ao3, cap3, c3, rfl, hw3, hb3, H3⟩)
              have hcl3 : c3.length ≤ ds.length + 2063 := by rw [H3.out]; exact hol
              go_roundw
              case rel => exact ⟨j + 1, ao3, cap3, c3, by omega, by omega, by go_num, rfl, hw3, hbel.trans hb3, hbel2.trans hb3, by show _ = _; rw [H3.out]; exact HB2.out⟩
              case measure => simp [intOf]; omega
            · rw [List.getElem?_eq_none (by omega), Option.getD_none] at HB2
              have hol := wOpen_len ds 0 v (by omega)
              go_wp2_with (go_at_call 35; refine (open_wr base ao' cap' 0 v ds _ hw' (by omega) (by omega) hv (by omega)).mono ?_; rintro e w3 ⟨ao3, cap3, c3, rfl, hw3, hb3, H3⟩)
              have hcl3 : c3.length ≤ ds.length + 2063 := by rw [H3.out]; exact hol
              go_roundw
              case rel => exact ⟨j + 1, ao3, cap3, c3, by omega, by omega, by go_num, rfl, hw3, hbel.trans hb3, hbel2.trans hb3, by show _ = _; rw [H3.out]; exact HB2.out⟩
              case measure => simp [intOf]; omega
        · obtain rfl : j = k := by omega
          have HB3 : Hid (ds = wExt bs pres sizes true v) := by
            show _ = _
            have e := HB.out
            rw [List.drop_of_length_le (by rw [HN.out]; exact Nat.le_refl _), wOpens] at e
            rw [e, wExt, HN.out, HB2.out]
          clear HB HB2
          go_wp2
          go_ret
          exact ⟨_, _, _, rfl, hw', hbel, HB3⟩

set_option maxRecDepth 100000 in
set_option maxHeartbeats 600000 in
theorem ext_wr_longm (base : Nat) (ao : Option Addr) (cap v n : Nat) (bs pres : List Bool) (sizes : List Nat) (ap az : Option Addr) (capp capz : Nat) (w : World) (hw : Wr w base ao cap bs) (hb : base ≤ w.heap.size)
    (hp : At w base ap (pres.map Value.bool)) (hz : At w base az (sizes.map fun z : Nat => Value.int .u16 (z : Int))) (HN : Hid (pres.length = n)) (h1 : 1 ≤ n) (h2 : n ≤ 200) (h3 : sizes.length ≤ 200) (hs : ∀ z ∈ sizes, z ≤ 255) (hv : v < 256) (hl : bs.length ≤ 1000000) (hc : 64 < n) :
    Calls Try.prog 19 #[.slice ao bs.length cap, .slice ap n capp, .slice az sizes.length capz, .bool true, .int .u8 (v : Int)] w fun e w' =>
      ∃ ao' cap' cs, e = .returned (.slice ao' cs.length cap') ∧ Wr w' base ao' cap' cs ∧ Below base w w' ∧ Hid (cs = wExt bs pres sizes true v) := by
  have hhl := wHead_len bs n true
  go_enter Try.func19, Try.ntmps19
  go_wp2_with fail
  refine (put_wr base ao cap 1 1 bs w hw hb (by omega) (by omega) (by omega)).mono ?_
  rintro e w1 ⟨ao1, cap1, c1, rfl, hw1, hb1, H1⟩
  have hs1 := hb1.size
  have hcl1 : c1.length ≤ bs.length + 1 := by rw [H1.out, List.length_append, bitsN_length]; exact Nat.le_refl _
  go_wp2_with fail
  refine (length_wr base ao1 cap1 n c1 w1 hw1 (by omega) (by omega) (by omega)).mono ?_
  rintro e w2 ⟨ao2, cap2, c2, rfl, hw2, hb2, H2⟩
  have hb12 := hb1.trans hb2
  have HH : Hid (c2 = wHead bs n true) := by
    show _ = _
    rw [H2.out, H1.out, wHead, if_neg (by simp)]
  clear H1 H2
  have hhc : c2.length ≤ bs.length + 24 := by rw [HH.out]; exact hhl
  have hp2 := hp.below hb12
  have hz2 := hz.below hb12
  clear hw hp hz
  go_wp2
  go_loopw [0, 12] (fun s i wr => ∃ (k : Nat) (ao' : Option Addr) (cap' : Nat) (cs : List Bool), k ≤ n ∧ cs.length ≤ bs.length + 24 + k ∧ i = .int .i64 (k : Int) ∧ s = .slice ao' cs.length cap' ∧ Wr wr base ao' cap' cs ∧ Below base w wr ∧ Below base w2 wr ∧ Hid (cs = wHead bs n true ++ pres.take k)) (fun _ i _ => n - (intOf i).toNat)
  case atStart => exact ⟨0, ao2, cap2, c2, Nat.zero_le _, by omega, rfl, rfl, hw2, hb12, Below.refl _ _, by show _ = _; rw [HH.out]; simp⟩
  case round =>
    obtain ⟨k, ao', cap', cs, hk, hcl, rfl, rfl, hw', hbel, hbel2, HB⟩ := hrel
    have hws := hbel.size
    by_cases hlt : k < n
    · have hkp : k < pres.length := by rw [HN.out]; exact hlt
      obtain ⟨gp, hap, hgp, hcp⟩ := (hp2.below hbel2) k (.bool pres[k]) (by simp [List.getElem?_eq_getElem hkp])
      have HB2 : Hid (cs ++ bitsN (pres[k]).toNat 1 = wHead bs n true ++ pres.take (k + 1)) := by
        show _ = _
        rw [HB.out, bitsN_one, List.take_succ_eq_append_getElem hkp, List.append_assoc]
      clear HB hp2
      generalize pres[k] = b at *
      subst hap
      have hbn : b.toNat < 2 := b.toNat_lt
      go_wp2_with (first | (go_at_call 34; refine (b2u b _).mono ?_; rintro e w3 ⟨rfl, rfl⟩) | (go_at_call 20; refine (put_wr base ao' cap' 1 b.toNat cs _ hw' (by omega) (by omega) (by omega) (by omega)).mono ?_; rintro e w3 ⟨ao3, cap3, c3, rfl, hw3, hb3, H3⟩))
      have hcl3 : c3.length ≤ cs.length + 1 := by rw [H3.out, List.length_append, bitsN_length]; exact Nat.le_refl _
      go_roundw
      case rel => exact ⟨k + 1, ao3, cap3, c3, by omega, by omega, by go_num, rfl, hw3, hbel.trans hb3, hbel2.trans hb3, by show _ = _; rw [H3.out]; exact HB2.out⟩
      case measure => simp [intOf]; omega
    · obtain rfl : k = n := by omega
      have HB2 : Hid (cs = wHead bs k true ++ pres) := by
        show _ = _
        rw [HB.out, List.take_of_length_le (by rw [HN.out]; exact Nat.le_refl _)]
      clear HB
      have hp3 := hp2.below hbel2
      have hz3 := hz2.below hbel2
      clear hp2 hz2
      go_wp2
      go_loopw [0, 13, 14] (fun s i _ wr' => ∃ (j : Nat) (ao' : Option Addr) (cap' : Nat) (ds : List Bool), j ≤ k ∧ ds.length ≤ bs.length + 24 + k + 2063 * j ∧ i = .int .i64 (j : Int) ∧ s = .slice ao' ds.length cap' ∧ Wr wr' base ao' cap' ds ∧ Below base w wr' ∧ Below base wr wr' ∧ Hid (wOpens sizes v (pres.drop j) j ds = wOpens sizes v pres 0 cs)) (fun _ i _ _ => k - (intOf i).toNat)
      case atStart => exact ⟨0, ao', cap', cs, Nat.zero_le _, by omega, rfl, rfl, hw', hbel, Below.refl _ _, rfl⟩
      case round =>
        clear hw' hbel hbel2 hcl
        obtain ⟨j, ao', cap', ds, hj, hcl, rfl, rfl, hw', hbel, hbel2, HB⟩ := hrel
        have hws := hbel.size
        by_cases hjl : j < k
        · have hjp : j < pres.length := by rw [HN.out]; exact hjl
          obtain ⟨gp, hap, hgp, hcp⟩ := (hp3.below hbel2) j (.bool pres[j]) (by simp [List.getElem?_eq_getElem hjp])
          have HB2 : Hid (wOpens sizes v (pres.drop (j + 1)) (j + 1) (if pres[j] = true then wOpen ds (sizes[j]?.getD 0) v else ds) = wOpens sizes v pres 0 cs) := by
            show _ = _
            rw [← HB.out, List.drop_eq_getElem_cons hjp, wOpens]
          clear HB
          generalize pres[j] = b at *
          subst hap
          cases b
          · simp only [Bool.false_eq_true, if_false] at HB2
            go_wp2
            go_roundw
            case rel => exact ⟨j + 1, ao', cap', ds, by omega, by omega, by go_num, rfl, hw', hbel, hbel2, HB2⟩
            case measure => simp [intOf]; omega
          · simp only [if_true] at HB2
            by_cases hjz : j < sizes.length
            · obtain ⟨gz, haz, hgz, hcz⟩ := (hz3.below hbel2) j (.int .u16 ((sizes[j] : Nat) : Int)) (by simp [List.getElem?_eq_getElem hjz])
              have hsz := hs sizes[j] (List.getElem_mem hjz)
              rw [List.getElem?_eq_getElem hjz, Option.getD_some] at HB2
              generalize sizes[j] = z at *
              subst haz
              have hol := wOpen_len ds z v hsz
              go_wp2_with (go_at_call 35; refine (open_wr base ao' cap' z v ds _ hw' (by omega) (by omega) hv (by omega)).mono ?_; rintro e w3 ⟨ao3, cap3, c3, rfl, hw3, hb3, H3⟩)
              have hcl3 : c3.length ≤ ds.length + 2063 := by rw [H3.out]; exact hol
              go_roundw
              case rel => exact ⟨j + 1, ao3, cap3, c3, by omega, by omega, by go_num, rfl, hw3, hbel.trans hb3, hbel2.trans hb3, by show _ = _; rw [H3.out]; exact HB2.out⟩
              case measure => simp [intOf]; omega
            · rw [List.getElem?_eq_none (by omega), Option.getD_none] at HB2
              have hol := wOpen_len ds 0 v (by omega)
              go_wp2_with (go_at_call 35; refine (open_wr base ao' cap' 0 v ds _ hw' (by omega) (by omega) hv (by omega)).mono ?_; rintro e w3 ⟨ao3, cap3, c3, rfl, hw3, hb3, H3⟩)
              have hcl3 : c3.length ≤ ds.length + 2063 := by rw [H3.out]; exact hol
              go_roundw
              case rel => exact ⟨j + 1, ao3, cap3, c3, by omega, by omega, by go_num, rfl, hw3, hbel.trans hb3, hbel2.trans hb3, by show _ = _; rw [H3.out]; exact HB2.out⟩
              case measure => simp [intOf]; omega
        · obtain rfl : j = k := by omega
          have HB3 : Hid (ds = wExt bs pres sizes true v) := by
            show _ = _
            have e := HB.out
            rw [List.drop_of_length_le (by rw [HN.out]; exact Nat.le_refl _), wOpens] at e
            rw [e, wExt, HN.out, HB2.out]
          clear HB HB2
          go_wp2
          go_ret
          exact ⟨_, _, _, rfl, hw', hbel, HB3⟩

set_option maxRecDepth 100000 in
set_option maxHeartbeats 600000 in
theorem ext_wr_many (base : Nat) (ao : Option Addr) (cap v n : Nat) (bs pres : List Bool) (sizes : List Nat) (ap az : Option Addr) (capp capz : Nat) (w : World) (hw : Wr w base ao cap bs) (hb : base ≤ w.heap.size)
    (hp : At w base ap (pres.map Value.bool)) (hz : At w base az (sizes.map fun z : Nat => Value.int .u16 (z : Int))) (HN : Hid (pres.length = n)) (h1 : 1 ≤ n) (h2 : n ≤ 200) (h3 : sizes.length ≤ 200) (hs : ∀ z ∈ sizes, z ≤ 255) (hv : v < 256) (hl : bs.length ≤ 1000000) (hc : 64 < n) :
    Calls Try.prog 19 #[.slice ao bs.length cap, .slice ap n capp, .slice az sizes.length capz, .bool false, .int .u8 (v : Int)] w fun e w' =>
      ∃ ao' cap' cs, e = .returned (.slice ao' cs.length cap') ∧ Wr w' base ao' cap' cs ∧ Below base w w' ∧ Hid (cs = wExt bs pres sizes false v) := by
  have hhl := wHead_len bs n false
  go_enter Try.func19, Try.ntmps19
  go_wp2_with fail
  refine (put_wr base ao cap 1 1 bs w hw hb (by omega) (by omega) (by omega)).mono ?_
  rintro e w1 ⟨ao1, cap1, c1, rfl, hw1, hb1, H1⟩
  have hs1 := hb1.size
  have hcl1 : c1.length ≤ bs.length + 1 := by rw [H1.out, List.length_append, bitsN_length]; exact Nat.le_refl _
  go_wp2_with fail
  refine (length_wr base ao1 cap1 n c1 w1 hw1 (by omega) (by omega) (by omega)).mono ?_
  rintro e w2 ⟨ao2, cap2, c2, rfl, hw2, hb2, H2⟩
  have hb12 := hb1.trans hb2
  have HH : Hid (c2 = wHead bs n false) := by
    show _ = _
    rw [H2.out, H1.out, wHead, if_neg (by simp; omega)]
  clear H1 H2
  have hhc : c2.length ≤ bs.length + 24 := by rw [HH.out]; exact hhl
  have hp2 := hp.below hb12
  have hz2 := hz.below hb12
  clear hw hp hz
  go_wp2
  go_loopw [0, 12] (fun s i wr => ∃ (k : Nat) (ao' : Option Addr) (cap' : Nat) (cs : List Bool), k ≤ n ∧ cs.length ≤ bs.length + 24 + k ∧ i = .int .i64 (k : Int) ∧ s = .slice ao' cs.length cap' ∧ Wr wr base ao' cap' cs ∧ Below base w wr ∧ Below base w2 wr ∧ Hid (cs = wHead bs n false ++ pres.take k)) (fun _ i _ => n - (intOf i).toNat)
  case atStart => exact ⟨0, ao2, cap2, c2, Nat.zero_le _, by omega, rfl, rfl, hw2, hb12, Below.refl _ _, by show _ = _; rw [HH.out]; simp⟩
  case round =>
    obtain ⟨k, ao', cap', cs, hk, hcl, rfl, rfl, hw', hbel, hbel2, HB⟩ := hrel
    have hws := hbel.size
    by_cases hlt : k < n
    · have hkp : k < pres.length := by rw [HN.out]; exact hlt
      obtain ⟨gp, hap, hgp, hcp⟩ := (hp2.below hbel2) k (.bool pres[k]) (by simp [List.getElem?_eq_getElem hkp])
      have HB2 : Hid (cs ++ bitsN (pres[k]).toNat 1 = wHead bs n false ++ pres.take (k + 1)) := by
        show _ = _
        rw [HB.out, bitsN_one, List.take_succ_eq_append_getElem hkp, List.append_assoc]
      clear HB hp2
      generalize pres[k] = b at *
      subst hap
      have hbn : b.toNat < 2 := b.toNat_lt
      go_wp2_with (first | (go_at_call 34; refine (b2u b _).mono ?_; rintro e w3 ⟨rfl, rfl⟩) | (go_at_call 20; refine (put_wr base ao' cap' 1 b.toNat cs _ hw' (by omega) (by omega) (by omega) (by omega)).mono ?_; rintro e w3 ⟨ao3, cap3, c3, rfl, hw3, hb3, H3⟩))
      have hcl3 : c3.length ≤ cs.length + 1 := by rw [H3.out, List.length_append, bitsN_length]; exact Nat.le_refl _
      go_roundw
      case rel => exact ⟨k + 1, ao3, cap3, c3, by omega, by omega, by go_num, rfl, hw3, hbel.trans hb3, hbel2.trans hb3, by show _ = _; rw [H3.out]; exact HB2.out⟩
      case measure => simp [intOf]; omega
    · obtain rfl : k = n := by omega
      have HB2 : Hid (cs = wHead bs k false ++ pres) := by
        show _ = _
        rw [HB.out, List.take_of_length_le (by rw [HN.out]; exact Nat.le_refl _)]
      clear HB
      have hp3 := hp2.below hbel2
      have hz3 := hz2.below hbel2
      clear hp2 hz2
      go_wp2
      go_loopw [0, 13, 14] (fun s i _ wr' => ∃ (j : Nat) (ao' : Option Addr) (cap' : Nat) (ds : List Bool), j ≤ k ∧ ds.length ≤ bs.length + 24 + k + 2063 * j ∧ i = .int .i64 (j : Int) ∧ s = .slice ao' ds.length cap' ∧ Wr wr' base ao' cap' ds ∧ Below base w wr' ∧ Below base wr wr' ∧ Hid (wOpens sizes v (pres.drop j) j ds = wOpens sizes v pres 0 cs)) (fun _ i _ _ => k - (intOf i).toNat)
      case atStart => exact ⟨0, ao', cap', cs, Nat.zero_le _, by omega, rfl, rfl, hw', hbel, Below.refl _ _, rfl⟩
      case round =>
        clear hw' hbel hbel2 hcl
        obtain ⟨j, ao', cap', ds, hj, hcl, rfl, rfl, hw', hbel, hbel2, HB⟩ := hrel
        have hws := hbel.size
        by_cases hjl : j < k
        · have hjp : j < pres.length := by rw [HN.out]; exact hjl
          obtain ⟨gp, hap, hgp, hcp⟩ := (hp3.below hbel2) j (.bool pres[j]) (by simp [List.getElem?_eq_getElem hjp])
          have HB2 : Hid (wOpens sizes v (pres.drop (j + 1)) (j + 1) (if pres[j] = true then wOpen ds (sizes[j]?.getD 0) v else ds) = wOpens sizes v pres 0 cs) := by
            show _ = _
            rw [← HB.out, List.drop_eq_getElem_cons hjp, wOpens]
          clear HB
          generalize pres[j] = b at *
          subst hap
          cases b
          · simp only [Bool.false_eq_true, if_false] at HB2
            go_wp2
            go_roundw
            case rel => exact ⟨j + 1, ao', cap', ds, by omega, by omega, by go_num, rfl, hw', hbel, hbel2, HB2⟩
            case measure => simp [intOf]; omega
          · simp only [if_true] at HB2
            by_cases hjz : j < sizes.length
            · obtain ⟨gz, haz, hgz, hcz⟩ := (hz3.below hbel2) j (.int .u16 ((sizes[j] : Nat) : Int)) (by simp [List.getElem?_eq_getElem hjz])
              have hsz := hs sizes[j] (List.getElem_mem hjz)
              rw [List.getElem?_eq_getElem hjz, Option.getD_some] at HB2
              generalize sizes[j] = z at *
              subst haz
              have hol := wOpen_len ds z v hsz
              go_wp2_with (go_at_call 35; refine (open_wr base ao' cap' z v ds _ hw' (by omega) (by omega) hv (by omega)).mono ?_; rintro e w3 ⟨ao3, cap3, c3, rfl, hw3, hb3, H3⟩)
              have hcl3 : c3.length ≤ ds.length + 2063 := by rw [H3.out]; exact hol
              go_roundw
              case rel => exact ⟨j + 1, ao3, cap3, c3, by omega, by omega, by go_num, rfl, hw3, hbel.trans hb3, hbel2.trans hb3, by show _ = _; rw [H3.out]; exact HB2.out⟩
              case measure => simp [intOf]; omega
            · rw [List.getElem?_eq_none (by omega), Option.getD_none] at HB2
              have hol := wOpen_len ds 0 v (by omega)
              go_wp2_with (go_at_call 35; refine (open_wr base ao' cap' 0 v ds _ hw' (by omega) (by omega) hv (by omega)).mono ?_; rintro e w3 ⟨ao3, cap3, c3, rfl, hw3, hb3, H3⟩)
              have hcl3 : c3.length ≤ ds.length + 2063 := by rw [H3.out]; exact hol
              go_roundw
              case rel => exact ⟨j + 1, ao3, cap3, c3, by omega, by omega, by go_num, rfl, hw3, hbel.trans hb3, hbel2.trans hb3, by show _ = _; rw [H3.out]; exact HB2.out⟩
              case measure => simp [intOf]; omega
        · obtain rfl : j = k := by omega
          have HB3 : Hid (ds = wExt bs pres sizes false v) := by
            show _ = _
            have e := HB.out
            rw [List.drop_of_length_le (by rw [HN.out]; exact Nat.le_refl _), wOpens] at e
            rw [e, wExt, HN.out, HB2.out]
          clear HB HB2
          go_wp2
          go_ret
          exact ⟨_, _, _, rfl, hw', hbel, HB3⟩

/-- THE CONTRACT of 'zzEncExtensions'. -/
theorem ext_wr (base : Nat) (ao : Option Addr) (cap v : Nat) (bs pres : List Bool) (sizes : List Nat) (ap az : Option Addr) (capp capz : Nat) (long : Bool) (w : World) (hw : Wr w base ao cap bs) (hb : base ≤ w.heap.size)
    (hp : At w base ap (pres.map Value.bool)) (hz : At w base az (sizes.map fun z : Nat => Value.int .u16 (z : Int))) (h1 : 1 ≤ pres.length) (h2 : pres.length ≤ 200) (h3 : sizes.length ≤ 200) (hs : ∀ z ∈ sizes, z ≤ 255) (hv : v < 256) (hl : bs.length ≤ 1000000) :
    Calls Try.prog 19 #[.slice ao bs.length cap, .slice ap pres.length capp, .slice az sizes.length capz, .bool long, .int .u8 (v : Int)] w fun e w' =>
      ∃ ao' cap' cs, e = .returned (.slice ao' cs.length cap') ∧ Wr w' base ao' cap' cs ∧ Below base w w' ∧ Hid (cs = wExt bs pres sizes long v) := by
  cases long
  · by_cases hc : pres.length ≤ 64
    · exact ext_wr_short base ao cap v _ bs pres sizes ap az capp capz w hw hb hp hz rfl h1 h2 h3 hs hv hl hc
    · exact ext_wr_many base ao cap v _ bs pres sizes ap az capp capz w hw hb hp hz rfl h1 h2 h3 hs hv hl (by omega)
  · by_cases hc : pres.length ≤ 64
    · exact ext_wr_longs base ao cap v _ bs pres sizes ap az capp capz w hw hb hp hz rfl h1 h2 h3 hs hv hl hc
    · exact ext_wr_longm base ao cap v _ bs pres sizes ap az capp capz w hw hb hp hz rfl h1 h2 h3 hs hv hl (by omega)
end Go.Proofs.Qxb6002696a
