/- zzEncSNSSAI (28): the S-NSSAI as the writer lays it. -/
import Derived.Test.Qxb6002696aLawKit
namespace Go.Proofs.Qxb6002696a
open Go.RowKit
set_option linter.unusedVariables false

theorem wItem_len (bs : List Bool) (i n v : Nat) (hn : n ≤ 255) : (wItem bs i n v).length ≤ bs.length + 2100 := by
  unfold wItem
  have := wOpen_len (wAlign bs ++ bitsN (i % 65536) 16 ++ bitsN (i % 3) 2) n v hn
  rw [List.length_append, List.length_append, wAlign_length, bitsN_length, bitsN_length] at this
  unfold al at this
  omega
theorem and65535 (j : Nat) (h : j < 65536) : bits .and .u32 (j : Int) 65535 = (j : Int) := by
  have := u32_and_nat j 65535 (by omega) (by decide)
  rw [nat_mask16, Nat.mod_eq_of_lt h] at this
  exact this
theorem and24 (j : Nat) (h : j < 4294967296) : bits .and .u32 (j : Int) 16777215 = ((j % 16777216 : Nat) : Int) := by
  have := u32_and_nat j 16777215 h (by decide)
  rw [nat_mask24] at this
  exact this

set_option maxRecDepth 100000 in
set_option maxHeartbeats 600000 in
/-- One item, behind its own call's place: align, number, criticality, open type: as one lemma on the plain side. -/
theorem item_is (ds : List Bool) (j z v : Nat) (hj : j < 65536) (c1 c2 c3 c4 : List Bool) (h1 : c1 = wAlign ds) (h2 : c2 = c1 ++ bitsN j 16) (h3 : c3 = c2 ++ bitsN (j % 3) 2) (h4 : c4 = wOpen c3 z v) : c4 = wItem ds j z v := by
  rw [h4, h3, h2, h1, wItem, Nat.mod_eq_of_lt hj]

set_option maxRecDepth 100000 in
set_option maxHeartbeats 1000000 in
theorem sn_wr_000 (base : Nat) (ao : Option Addr) (cap sst sd v l4 l5 l6 : Nat) (bs pres : List Bool) (ie sizes : List Nat) (ai ap az : Option Addr) (capi capp capz : Nat) (long : Bool) (w : World) (hw : Wr w base ao cap bs) (hb : base ≤ w.heap.size)
    (hi : At w base ai (ie.map u16v)) (hp : At w base ap (pres.map Value.bool)) (hz : At w base az (sizes.map u16v)) (HL4 : Hid (ie.length = l4)) (HL5 : Hid (pres.length = l5)) (HL6 : Hid (sizes.length = l6))
    (h4 : l4 ≤ 200) (h5 : l5 ≤ 200) (h6 : l6 ≤ 200) (hs : ∀ z ∈ sizes, z ≤ 255) (hy : ∀ z ∈ ie, z ≤ 255) (hst : sst < 256) (hsd : sd < 4294967296) (hv : v < 256) (hl : bs.length ≤ 100000) (k4 : l4 = 0) (k5 : l5 = 0) :
    Calls Try.prog 28 #[.slice ao bs.length cap, .int .u8 (sst : Int), .bool false, .int .u32 (sd : Int), .slice ai l4 capi, .slice ap l5 capp, .slice az l6 capz, .bool long, .int .u8 (v : Int)] w fun e w' =>
      ∃ ao' cap' cs, e = .returned (.slice ao' cs.length cap') ∧ Wr w' base ao' cap' cs ∧ Below base w w' ∧ Hid (cs = wSn bs sst false sd ie pres sizes long v) := by
  have HE4 : Hid (ie.isEmpty = true) := (by have := HL4.out; cases ie <;> simp at * <;> omega : ie.isEmpty = true)
  have HE5 : Hid (pres.isEmpty = true) := (by have := HL5.out; cases pres <;> simp at * <;> omega : pres.isEmpty = true)
  subst k4
  subst k5
  go_enter Try.func28, Try.ntmps28
  go_wp2_with fail
  refine (b2u false w).mono ?_
  rintro e w' ⟨rfl, rfl⟩
  go_wp2_with fail
  refine (put_wr base ao cap 1 0 bs w hw hb (by omega) (by omega) (by omega)).mono ?_
  rintro e w1 ⟨ao1, cap1, c1, rfl, hw1, hb1, H1⟩
  have hs1 := hb1.size
  have hc1 : c1.length ≤ bs.length + 1 := by rw [H1.out, List.length_append, bitsN_length]; exact Nat.le_refl _
  go_wp2_with fail
  refine (b2u false w1).mono ?_
  rintro e w' ⟨rfl, rfl⟩
  go_wp2_with fail
  refine (put_wr base ao1 cap1 1 0 c1 w1 hw1 (by omega) (by omega) (by omega) (by omega)).mono ?_
  rintro e w2 ⟨ao2, cap2, c2, rfl, hw2, hb2, H2⟩
  have hs2 := hb2.size
  have hc2 : c2.length ≤ c1.length + 1 := by rw [H2.out, List.length_append, bitsN_length]; exact Nat.le_refl _
  go_wp2_with fail
  refine (b2u false w2).mono ?_
  rintro e w' ⟨rfl, rfl⟩
  go_wp2_with fail
  refine (put_wr base ao2 cap2 1 0 c2 w2 hw2 (by omega) (by omega) (by omega) (by omega)).mono ?_
  rintro e w3 ⟨ao3, cap3, c3, rfl, hw3, hb3, H3⟩
  have hs3 := hb3.size
  have hc3 : c3.length ≤ c2.length + 1 := by rw [H3.out, List.length_append, bitsN_length]; exact Nat.le_refl _
  go_wp2_with fail
  refine (put_wr base ao3 cap3 8 sst c3 w3 hw3 (by omega) (by omega) (by omega) (by omega)).mono ?_
  rintro e w4 ⟨ao4, cap4, c4, rfl, hw4, hb4, H4⟩
  have hs4 := hb4.size
  have hc4 : c4.length ≤ c3.length + 8 := by rw [H4.out, List.length_append, bitsN_length]; exact Nat.le_refl _
  have hbw4 : Below base w w4 := ((hb1.trans hb2).trans hb3).trans hb4
  have HB1 : Hid (c4 = bs ++ bitsN (!pres.isEmpty).toNat 1 ++ bitsN (false).toNat 1 ++ bitsN (!ie.isEmpty).toNat 1 ++ bitsN sst 8) := by
    show _ = _
    rw [H4.out, H3.out, H2.out, H1.out, HE4.out, HE5.out]; rfl
  clear H1 H2 H3 H4 hw1 hw2 hw3 hb1 hb2 hb3 hb4
  clear hi
  go_wp2
  go_ret
  refine ⟨_, _, _, rfl, hw4, hbw4, ?_⟩
  show _ = _
  unfold wSn
  simp only
  rw [← HB1.out]
  simp only [HE4.out, HE5.out, if_true, Bool.false_eq_true, if_false]

set_option maxRecDepth 100000 in
set_option maxHeartbeats 1000000 in
theorem sn_wr_001 (base : Nat) (ao : Option Addr) (cap sst sd v l4 l5 l6 : Nat) (bs pres : List Bool) (ie sizes : List Nat) (ai ap az : Option Addr) (capi capp capz : Nat) (long : Bool) (w : World) (hw : Wr w base ao cap bs) (hb : base ≤ w.heap.size)
    (hi : At w base ai (ie.map u16v)) (hp : At w base ap (pres.map Value.bool)) (hz : At w base az (sizes.map u16v)) (HL4 : Hid (ie.length = l4)) (HL5 : Hid (pres.length = l5)) (HL6 : Hid (sizes.length = l6))
    (h4 : l4 ≤ 200) (h5 : l5 ≤ 200) (h6 : l6 ≤ 200) (hs : ∀ z ∈ sizes, z ≤ 255) (hy : ∀ z ∈ ie, z ≤ 255) (hst : sst < 256) (hsd : sd < 4294967296) (hv : v < 256) (hl : bs.length ≤ 100000) (k4 : l4 = 0) (k5 : 1 ≤ l5) :
    Calls Try.prog 28 #[.slice ao bs.length cap, .int .u8 (sst : Int), .bool false, .int .u32 (sd : Int), .slice ai l4 capi, .slice ap l5 capp, .slice az l6 capz, .bool long, .int .u8 (v : Int)] w fun e w' =>
      ∃ ao' cap' cs, e = .returned (.slice ao' cs.length cap') ∧ Wr w' base ao' cap' cs ∧ Below base w w' ∧ Hid (cs = wSn bs sst false sd ie pres sizes long v) := by
  have HE4 : Hid (ie.isEmpty = true) := (by have := HL4.out; cases ie <;> simp at * <;> omega : ie.isEmpty = true)
  have HE5 : Hid (pres.isEmpty = false) := (by have := HL5.out; cases pres <;> simp at * <;> omega : pres.isEmpty = false)
  subst k4
  have t5 : decide (0 < l5) = true := by simp; omega
  go_enter Try.func28, Try.ntmps28
  go_wp2_with fail
  refine (b2u true w).mono ?_
  rintro e w' ⟨rfl, rfl⟩
  go_wp2_with fail
  refine (put_wr base ao cap 1 1 bs w hw hb (by omega) (by omega) (by omega)).mono ?_
  rintro e w1 ⟨ao1, cap1, c1, rfl, hw1, hb1, H1⟩
  have hs1 := hb1.size
  have hc1 : c1.length ≤ bs.length + 1 := by rw [H1.out, List.length_append, bitsN_length]; exact Nat.le_refl _
  go_wp2_with fail
  refine (b2u false w1).mono ?_
  rintro e w' ⟨rfl, rfl⟩
  go_wp2_with fail
  refine (put_wr base ao1 cap1 1 0 c1 w1 hw1 (by omega) (by omega) (by omega) (by omega)).mono ?_
  rintro e w2 ⟨ao2, cap2, c2, rfl, hw2, hb2, H2⟩
  have hs2 := hb2.size
  have hc2 : c2.length ≤ c1.length + 1 := by rw [H2.out, List.length_append, bitsN_length]; exact Nat.le_refl _
  go_wp2_with fail
  refine (b2u false w2).mono ?_
  rintro e w' ⟨rfl, rfl⟩
  go_wp2_with fail
  refine (put_wr base ao2 cap2 1 0 c2 w2 hw2 (by omega) (by omega) (by omega) (by omega)).mono ?_
  rintro e w3 ⟨ao3, cap3, c3, rfl, hw3, hb3, H3⟩
  have hs3 := hb3.size
  have hc3 : c3.length ≤ c2.length + 1 := by rw [H3.out, List.length_append, bitsN_length]; exact Nat.le_refl _
  go_wp2_with fail
  refine (put_wr base ao3 cap3 8 sst c3 w3 hw3 (by omega) (by omega) (by omega) (by omega)).mono ?_
  rintro e w4 ⟨ao4, cap4, c4, rfl, hw4, hb4, H4⟩
  have hs4 := hb4.size
  have hc4 : c4.length ≤ c3.length + 8 := by rw [H4.out, List.length_append, bitsN_length]; exact Nat.le_refl _
  have hbw4 : Below base w w4 := ((hb1.trans hb2).trans hb3).trans hb4
  have HB1 : Hid (c4 = bs ++ bitsN (!pres.isEmpty).toNat 1 ++ bitsN (false).toNat 1 ++ bitsN (!ie.isEmpty).toNat 1 ++ bitsN sst 8) := by
    show _ = _
    rw [H4.out, H3.out, H2.out, H1.out, HE4.out, HE5.out]; rfl
  clear H1 H2 H3 H4 hw1 hw2 hw3 hb1 hb2 hb3 hb4
  clear hi
  go_wp2_with fail
  refine (ext_wr' base ao4 cap4 v l5 l6 c4 pres sizes ap az capp capz long w4 hw4 (by omega) (hp.below hbw4) (hz.below hbw4) HL5 HL6 k5 h5 h6 hs hv (by omega)).mono ?_
  rintro e wx ⟨aox, capx, cx, rfl, hwx, hbx, Hx⟩
  go_wp2
  go_ret
  refine ⟨_, _, _, rfl, hwx, hbw4.trans hbx, ?_⟩
  show _ = _
  rw [Hx.out]
  unfold wSn
  simp only
  rw [← HB1.out]
  simp only [HE4.out, HE5.out, if_true, Bool.false_eq_true, if_false]

set_option maxRecDepth 100000 in
set_option maxHeartbeats 1000000 in
theorem sn_wr_010 (base : Nat) (ao : Option Addr) (cap sst sd v l4 l5 l6 : Nat) (bs pres : List Bool) (ie sizes : List Nat) (ai ap az : Option Addr) (capi capp capz : Nat) (long : Bool) (w : World) (hw : Wr w base ao cap bs) (hb : base ≤ w.heap.size)
    (hi : At w base ai (ie.map u16v)) (hp : At w base ap (pres.map Value.bool)) (hz : At w base az (sizes.map u16v)) (HL4 : Hid (ie.length = l4)) (HL5 : Hid (pres.length = l5)) (HL6 : Hid (sizes.length = l6))
    (h4 : l4 ≤ 200) (h5 : l5 ≤ 200) (h6 : l6 ≤ 200) (hs : ∀ z ∈ sizes, z ≤ 255) (hy : ∀ z ∈ ie, z ≤ 255) (hst : sst < 256) (hsd : sd < 4294967296) (hv : v < 256) (hl : bs.length ≤ 100000) (k4 : 1 ≤ l4) (k5 : l5 = 0) :
    Calls Try.prog 28 #[.slice ao bs.length cap, .int .u8 (sst : Int), .bool false, .int .u32 (sd : Int), .slice ai l4 capi, .slice ap l5 capp, .slice az l6 capz, .bool long, .int .u8 (v : Int)] w fun e w' =>
      ∃ ao' cap' cs, e = .returned (.slice ao' cs.length cap') ∧ Wr w' base ao' cap' cs ∧ Below base w w' ∧ Hid (cs = wSn bs sst false sd ie pres sizes long v) := by
  have HE4 : Hid (ie.isEmpty = false) := (by have := HL4.out; cases ie <;> simp at * <;> omega : ie.isEmpty = false)
  have HE5 : Hid (pres.isEmpty = true) := (by have := HL5.out; cases pres <;> simp at * <;> omega : pres.isEmpty = true)
  have t4 : decide (0 < l4) = true := by simp; omega
  subst k5
  go_enter Try.func28, Try.ntmps28
  go_wp2_with fail
  refine (b2u false w).mono ?_
  rintro e w' ⟨rfl, rfl⟩
  go_wp2_with fail
  refine (put_wr base ao cap 1 0 bs w hw hb (by omega) (by omega) (by omega)).mono ?_
  rintro e w1 ⟨ao1, cap1, c1, rfl, hw1, hb1, H1⟩
  have hs1 := hb1.size
  have hc1 : c1.length ≤ bs.length + 1 := by rw [H1.out, List.length_append, bitsN_length]; exact Nat.le_refl _
  go_wp2_with fail
  refine (b2u false w1).mono ?_
  rintro e w' ⟨rfl, rfl⟩
  go_wp2_with fail
  refine (put_wr base ao1 cap1 1 0 c1 w1 hw1 (by omega) (by omega) (by omega) (by omega)).mono ?_
  rintro e w2 ⟨ao2, cap2, c2, rfl, hw2, hb2, H2⟩
  have hs2 := hb2.size
  have hc2 : c2.length ≤ c1.length + 1 := by rw [H2.out, List.length_append, bitsN_length]; exact Nat.le_refl _
  go_wp2_with fail
  refine (b2u true w2).mono ?_
  rintro e w' ⟨rfl, rfl⟩
  go_wp2_with fail
  refine (put_wr base ao2 cap2 1 1 c2 w2 hw2 (by omega) (by omega) (by omega) (by omega)).mono ?_
  rintro e w3 ⟨ao3, cap3, c3, rfl, hw3, hb3, H3⟩
  have hs3 := hb3.size
  have hc3 : c3.length ≤ c2.length + 1 := by rw [H3.out, List.length_append, bitsN_length]; exact Nat.le_refl _
  go_wp2_with fail
  refine (put_wr base ao3 cap3 8 sst c3 w3 hw3 (by omega) (by omega) (by omega) (by omega)).mono ?_
  rintro e w4 ⟨ao4, cap4, c4, rfl, hw4, hb4, H4⟩
  have hs4 := hb4.size
  have hc4 : c4.length ≤ c3.length + 8 := by rw [H4.out, List.length_append, bitsN_length]; exact Nat.le_refl _
  have hbw4 : Below base w w4 := ((hb1.trans hb2).trans hb3).trans hb4
  have HB1 : Hid (c4 = bs ++ bitsN (!pres.isEmpty).toNat 1 ++ bitsN (false).toNat 1 ++ bitsN (!ie.isEmpty).toNat 1 ++ bitsN sst 8) := by
    show _ = _
    rw [H4.out, H3.out, H2.out, H1.out, HE4.out, HE5.out]; rfl
  clear H1 H2 H3 H4 hw1 hw2 hw3 hb1 hb2 hb3 hb4
  go_wp2_with fail
  refine (align_wr base ao4 cap4 c4 w4 hw4 (by omega) (by omega)).mono ?_
  rintro e w7 ⟨ao7, cap7, c7, rfl, hw7, hb7, H7⟩
  have hs7 := hb7.size
  have hc7 : c7.length ≤ c4.length + 7 := by rw [H7.out, wAlign_length]; unfold al; omega
  go_wp2_with fail
  have hsub : (l4 : Int) - 1 = ((l4 - 1 : Nat) : Int) := by omega
  rw [hsub]
  refine (put_wr base ao7 cap7 16 (l4 - 1) c7 w7 hw7 (by omega) (by omega) (by omega) (by omega)).mono ?_
  rintro e w8 ⟨ao8, cap8, c8, rfl, hw8, hb8, H8⟩
  have hs8 := hb8.size
  have hc8 : c8.length ≤ c7.length + 16 := by rw [H8.out, List.length_append, bitsN_length]; exact Nat.le_refl _
  have hbw8 : Below base w w8 := (hbw4.trans hb7).trans hb8
  have HB3 : Hid (c8 = wAlign c4 ++ bitsN (ie.length - 1) 16) := by
    show _ = _
    rw [H8.out, H7.out, HL4.out]
  have hi8 := hi.below hbw8
  clear H7 H8 hw7 hb7 hb8 hsub hw4 hi hw
  go_wp2
  go_loopw [0, 19] (fun s i wr => ∃ (j : Nat) (ao' : Option Addr) (cap' : Nat) (ds : List Bool), j ≤ l4 ∧ ds.length ≤ bs.length + 100 + 2100 * j ∧ i = .int .i64 (j : Int) ∧ s = .slice ao' ds.length cap' ∧ Wr wr base ao' cap' ds ∧ Below base w wr ∧ Below base w8 wr ∧ Hid (wItems v (ie.drop j) j ds = wItems v ie 0 c8)) (fun _ i _ => l4 - (intOf i).toNat)
  case atStart => exact ⟨0, ao8, cap8, c8, Nat.zero_le _, by omega, rfl, rfl, hw8, hbw8, Below.refl _ _, rfl⟩
  case round =>
    clear hw8
    obtain ⟨j, ao9, cap9, ds, hj, hcl, rfl, rfl, hw9, hbw9, hb89, HI⟩ := hrel
    have hs9 := hbw9.size
    by_cases hjl : j < l4
    · have hji : j < ie.length := by rw [HL4.out]; exact hjl
      obtain ⟨gi, hai, hgi, hci⟩ := (hi8.below hb89) j (u16v ie[j]) (by simp [List.getElem?_eq_getElem hji])
      have hzy := hy ie[j] (List.getElem_mem hji)
      have HI2 : Hid (wItems v (ie.drop (j + 1)) (j + 1) (wItem ds j ie[j] v) = wItems v ie 0 c8) := by
        show _ = _
        rw [← HI.out, List.drop_eq_getElem_cons hji, wItems]
      clear HI hi8
      generalize ie[j] = z at *
      subst hai
      unfold u16v at hci
      have hand := and65535 j (by omega)
      obtain ⟨r, hr⟩ : ∃ r : Nat, r = j % 3 := ⟨_, rfl⟩
      have hr3 : (j : Int) % 3 = (r : Int) := by omega
      have hrl : r < 3 := by omega
      have HR : Hid (r = j % 3) := hr
      clear hr
      go_wp2_with fail
      refine (align_wr base ao9 cap9 ds wr hw9 (by omega) (by omega)).mono ?_
      rintro e wa ⟨aoa, capa, ca, rfl, hwa, hba, Ha⟩
      have hsa := hba.size
      have hca : ca.length ≤ ds.length + 7 := by rw [Ha.out, wAlign_length]; unfold al; omega
      go_wp2_with fail
      refine (put_wr base aoa capa 16 j ca wa hwa (by omega) (by omega) (by omega) (by omega)).mono ?_
      rintro e wb ⟨aob, capb, cb, rfl, hwb, hbb, Hb⟩
      have hsb := hbb.size
      have hcb : cb.length ≤ ca.length + 16 := by rw [Hb.out, List.length_append, bitsN_length]; exact Nat.le_refl _
      go_wp2_with fail
      refine (put_wr base aob capb 2 r cb wb hwb (by omega) (by omega) (by omega) (by omega)).mono ?_
      rintro e wc ⟨aoc, capc, cc, rfl, hwc, hbc, Hc⟩
      have hsc := hbc.size
      have hcc : cc.length ≤ cb.length + 2 := by rw [Hc.out, List.length_append, bitsN_length]; exact Nat.le_refl _
      have hba3 := (hba.trans hbb).trans hbc
      have hcie : wc.cell? ⟨gi, j, none⟩ = some (.int .u16 (z : Int)) := (hba3.cell (p := ⟨gi, j, none⟩) hgi).trans hci
      go_wp2_with fail
      refine (open_wr base aoc capc z v cc wc hwc (by omega) (by omega) hv (by omega)).mono ?_
      rintro e wd ⟨aod, capd, cd, rfl, hwd, hbd, Hd⟩
      have HW : Hid (cd = wItem ds j z v) := item_is ds j z v (by omega) ca cb cc cd Ha.out Hb.out (by rw [Hc.out, HR.out]) Hd.out
      have hcd : cd.length ≤ ds.length + 2100 := by rw [HW.out]; exact wItem_len ds j z v hzy
      have hba4 := hba3.trans hbd
      clear Ha Hb Hc Hd
      go_wp2
      go_roundw
      case rel => exact ⟨j + 1, aod, capd, cd, by omega, by omega, by go_num, rfl, hwd, hbw9.trans hba4, hb89.trans hba4, by show _ = _; rw [HW.out]; exact HI2.out⟩
      case measure => simp [intOf]; omega
    · have HB4 : Hid (ds = wItems v ie 0 c8) := by
        show _ = _
        rw [← HI.out, List.drop_of_length_le (by rw [HL4.out]; omega), wItems]
      have hcl2 : ds.length ≤ 700000 := by omega
      clear HI hi8
      go_wp2
      go_ret
      refine ⟨_, _, _, rfl, hw9, hbw9, ?_⟩
      show _ = _
      unfold wSn
      simp only
      rw [← HB1.out]
      simp only [HE4.out, HE5.out, if_true, Bool.false_eq_true, if_false]
      rw [← HB3.out, ← HB4.out]

set_option maxRecDepth 100000 in
set_option maxHeartbeats 1000000 in
theorem sn_wr_011 (base : Nat) (ao : Option Addr) (cap sst sd v l4 l5 l6 : Nat) (bs pres : List Bool) (ie sizes : List Nat) (ai ap az : Option Addr) (capi capp capz : Nat) (long : Bool) (w : World) (hw : Wr w base ao cap bs) (hb : base ≤ w.heap.size)
    (hi : At w base ai (ie.map u16v)) (hp : At w base ap (pres.map Value.bool)) (hz : At w base az (sizes.map u16v)) (HL4 : Hid (ie.length = l4)) (HL5 : Hid (pres.length = l5)) (HL6 : Hid (sizes.length = l6))
    (h4 : l4 ≤ 200) (h5 : l5 ≤ 200) (h6 : l6 ≤ 200) (hs : ∀ z ∈ sizes, z ≤ 255) (hy : ∀ z ∈ ie, z ≤ 255) (hst : sst < 256) (hsd : sd < 4294967296) (hv : v < 256) (hl : bs.length ≤ 100000) (k4 : 1 ≤ l4) (k5 : 1 ≤ l5) :
    Calls Try.prog 28 #[.slice ao bs.length cap, .int .u8 (sst : Int), .bool false, .int .u32 (sd : Int), .slice ai l4 capi, .slice ap l5 capp, .slice az l6 capz, .bool long, .int .u8 (v : Int)] w fun e w' =>
      ∃ ao' cap' cs, e = .returned (.slice ao' cs.length cap') ∧ Wr w' base ao' cap' cs ∧ Below base w w' ∧ Hid (cs = wSn bs sst false sd ie pres sizes long v) := by
  have HE4 : Hid (ie.isEmpty = false) := (by have := HL4.out; cases ie <;> simp at * <;> omega : ie.isEmpty = false)
  have HE5 : Hid (pres.isEmpty = false) := (by have := HL5.out; cases pres <;> simp at * <;> omega : pres.isEmpty = false)
  have t4 : decide (0 < l4) = true := by simp; omega
  have t5 : decide (0 < l5) = true := by simp; omega
  go_enter Try.func28, Try.ntmps28
  go_wp2_with fail
  refine (b2u true w).mono ?_
  rintro e w' ⟨rfl, rfl⟩
  go_wp2_with fail
  refine (put_wr base ao cap 1 1 bs w hw hb (by omega) (by omega) (by omega)).mono ?_
  rintro e w1 ⟨ao1, cap1, c1, rfl, hw1, hb1, H1⟩
  have hs1 := hb1.size
  have hc1 : c1.length ≤ bs.length + 1 := by rw [H1.out, List.length_append, bitsN_length]; exact Nat.le_refl _
  go_wp2_with fail
  refine (b2u false w1).mono ?_
  rintro e w' ⟨rfl, rfl⟩
  go_wp2_with fail
  refine (put_wr base ao1 cap1 1 0 c1 w1 hw1 (by omega) (by omega) (by omega) (by omega)).mono ?_
  rintro e w2 ⟨ao2, cap2, c2, rfl, hw2, hb2, H2⟩
  have hs2 := hb2.size
  have hc2 : c2.length ≤ c1.length + 1 := by rw [H2.out, List.length_append, bitsN_length]; exact Nat.le_refl _
  go_wp2_with fail
  refine (b2u true w2).mono ?_
  rintro e w' ⟨rfl, rfl⟩
  go_wp2_with fail
  refine (put_wr base ao2 cap2 1 1 c2 w2 hw2 (by omega) (by omega) (by omega) (by omega)).mono ?_
  rintro e w3 ⟨ao3, cap3, c3, rfl, hw3, hb3, H3⟩
  have hs3 := hb3.size
  have hc3 : c3.length ≤ c2.length + 1 := by rw [H3.out, List.length_append, bitsN_length]; exact Nat.le_refl _
  go_wp2_with fail
  refine (put_wr base ao3 cap3 8 sst c3 w3 hw3 (by omega) (by omega) (by omega) (by omega)).mono ?_
  rintro e w4 ⟨ao4, cap4, c4, rfl, hw4, hb4, H4⟩
  have hs4 := hb4.size
  have hc4 : c4.length ≤ c3.length + 8 := by rw [H4.out, List.length_append, bitsN_length]; exact Nat.le_refl _
  have hbw4 : Below base w w4 := ((hb1.trans hb2).trans hb3).trans hb4
  have HB1 : Hid (c4 = bs ++ bitsN (!pres.isEmpty).toNat 1 ++ bitsN (false).toNat 1 ++ bitsN (!ie.isEmpty).toNat 1 ++ bitsN sst 8) := by
    show _ = _
    rw [H4.out, H3.out, H2.out, H1.out, HE4.out, HE5.out]; rfl
  clear H1 H2 H3 H4 hw1 hw2 hw3 hb1 hb2 hb3 hb4
  go_wp2_with fail
  refine (align_wr base ao4 cap4 c4 w4 hw4 (by omega) (by omega)).mono ?_
  rintro e w7 ⟨ao7, cap7, c7, rfl, hw7, hb7, H7⟩
  have hs7 := hb7.size
  have hc7 : c7.length ≤ c4.length + 7 := by rw [H7.out, wAlign_length]; unfold al; omega
  go_wp2_with fail
  have hsub : (l4 : Int) - 1 = ((l4 - 1 : Nat) : Int) := by omega
  rw [hsub]
  refine (put_wr base ao7 cap7 16 (l4 - 1) c7 w7 hw7 (by omega) (by omega) (by omega) (by omega)).mono ?_
  rintro e w8 ⟨ao8, cap8, c8, rfl, hw8, hb8, H8⟩
  have hs8 := hb8.size
  have hc8 : c8.length ≤ c7.length + 16 := by rw [H8.out, List.length_append, bitsN_length]; exact Nat.le_refl _
  have hbw8 : Below base w w8 := (hbw4.trans hb7).trans hb8
  have HB3 : Hid (c8 = wAlign c4 ++ bitsN (ie.length - 1) 16) := by
    show _ = _
    rw [H8.out, H7.out, HL4.out]
  have hi8 := hi.below hbw8
  clear H7 H8 hw7 hb7 hb8 hsub hw4 hi hw
  go_wp2
  go_loopw [0, 19] (fun s i wr => ∃ (j : Nat) (ao' : Option Addr) (cap' : Nat) (ds : List Bool), j ≤ l4 ∧ ds.length ≤ bs.length + 100 + 2100 * j ∧ i = .int .i64 (j : Int) ∧ s = .slice ao' ds.length cap' ∧ Wr wr base ao' cap' ds ∧ Below base w wr ∧ Below base w8 wr ∧ Hid (wItems v (ie.drop j) j ds = wItems v ie 0 c8)) (fun _ i _ => l4 - (intOf i).toNat)
  case atStart => exact ⟨0, ao8, cap8, c8, Nat.zero_le _, by omega, rfl, rfl, hw8, hbw8, Below.refl _ _, rfl⟩
  case round =>
    clear hw8
    obtain ⟨j, ao9, cap9, ds, hj, hcl, rfl, rfl, hw9, hbw9, hb89, HI⟩ := hrel
    have hs9 := hbw9.size
    by_cases hjl : j < l4
    · have hji : j < ie.length := by rw [HL4.out]; exact hjl
      obtain ⟨gi, hai, hgi, hci⟩ := (hi8.below hb89) j (u16v ie[j]) (by simp [List.getElem?_eq_getElem hji])
      have hzy := hy ie[j] (List.getElem_mem hji)
      have HI2 : Hid (wItems v (ie.drop (j + 1)) (j + 1) (wItem ds j ie[j] v) = wItems v ie 0 c8) := by
        show _ = _
        rw [← HI.out, List.drop_eq_getElem_cons hji, wItems]
      clear HI hi8
      generalize ie[j] = z at *
      subst hai
      unfold u16v at hci
      have hand := and65535 j (by omega)
      obtain ⟨r, hr⟩ : ∃ r : Nat, r = j % 3 := ⟨_, rfl⟩
      have hr3 : (j : Int) % 3 = (r : Int) := by omega
      have hrl : r < 3 := by omega
      have HR : Hid (r = j % 3) := hr
      clear hr
      go_wp2_with fail
      refine (align_wr base ao9 cap9 ds wr hw9 (by omega) (by omega)).mono ?_
      rintro e wa ⟨aoa, capa, ca, rfl, hwa, hba, Ha⟩
      have hsa := hba.size
      have hca : ca.length ≤ ds.length + 7 := by rw [Ha.out, wAlign_length]; unfold al; omega
      go_wp2_with fail
      refine (put_wr base aoa capa 16 j ca wa hwa (by omega) (by omega) (by omega) (by omega)).mono ?_
      rintro e wb ⟨aob, capb, cb, rfl, hwb, hbb, Hb⟩
      have hsb := hbb.size
      have hcb : cb.length ≤ ca.length + 16 := by rw [Hb.out, List.length_append, bitsN_length]; exact Nat.le_refl _
      go_wp2_with fail
      refine (put_wr base aob capb 2 r cb wb hwb (by omega) (by omega) (by omega) (by omega)).mono ?_
      rintro e wc ⟨aoc, capc, cc, rfl, hwc, hbc, Hc⟩
      have hsc := hbc.size
      have hcc : cc.length ≤ cb.length + 2 := by rw [Hc.out, List.length_append, bitsN_length]; exact Nat.le_refl _
      have hba3 := (hba.trans hbb).trans hbc
      have hcie : wc.cell? ⟨gi, j, none⟩ = some (.int .u16 (z : Int)) := (hba3.cell (p := ⟨gi, j, none⟩) hgi).trans hci
      go_wp2_with fail
      refine (open_wr base aoc capc z v cc wc hwc (by omega) (by omega) hv (by omega)).mono ?_
      rintro e wd ⟨aod, capd, cd, rfl, hwd, hbd, Hd⟩
      have HW : Hid (cd = wItem ds j z v) := item_is ds j z v (by omega) ca cb cc cd Ha.out Hb.out (by rw [Hc.out, HR.out]) Hd.out
      have hcd : cd.length ≤ ds.length + 2100 := by rw [HW.out]; exact wItem_len ds j z v hzy
      have hba4 := hba3.trans hbd
      clear Ha Hb Hc Hd
      go_wp2
      go_roundw
      case rel => exact ⟨j + 1, aod, capd, cd, by omega, by omega, by go_num, rfl, hwd, hbw9.trans hba4, hb89.trans hba4, by show _ = _; rw [HW.out]; exact HI2.out⟩
      case measure => simp [intOf]; omega
    · have HB4 : Hid (ds = wItems v ie 0 c8) := by
        show _ = _
        rw [← HI.out, List.drop_of_length_le (by rw [HL4.out]; omega), wItems]
      have hcl2 : ds.length ≤ 700000 := by omega
      clear HI hi8
      go_wp2_with fail
      refine (ext_wr' base ao9 cap9 v l5 l6 ds pres sizes ap az capp capz long wr hw9 (by omega) (hp.below hbw9) (hz.below hbw9) HL5 HL6 k5 h5 h6 hs hv (by omega)).mono ?_
      rintro e wx ⟨aox, capx, cx, rfl, hwx, hbx, Hx⟩
      go_wp2
      go_ret
      refine ⟨_, _, _, rfl, hwx, hbw9.trans hbx, ?_⟩
      show _ = _
      rw [Hx.out]
      unfold wSn
      simp only
      rw [← HB1.out]
      simp only [HE4.out, HE5.out, Bool.false_eq_true, if_false]
      rw [← HB3.out, ← HB4.out]

set_option maxRecDepth 100000 in
set_option maxHeartbeats 1000000 in
theorem sn_wr_100 (base : Nat) (ao : Option Addr) (cap sst sd v l4 l5 l6 : Nat) (bs pres : List Bool) (ie sizes : List Nat) (ai ap az : Option Addr) (capi capp capz : Nat) (long : Bool) (w : World) (hw : Wr w base ao cap bs) (hb : base ≤ w.heap.size)
    (hi : At w base ai (ie.map u16v)) (hp : At w base ap (pres.map Value.bool)) (hz : At w base az (sizes.map u16v)) (HL4 : Hid (ie.length = l4)) (HL5 : Hid (pres.length = l5)) (HL6 : Hid (sizes.length = l6))
    (h4 : l4 ≤ 200) (h5 : l5 ≤ 200) (h6 : l6 ≤ 200) (hs : ∀ z ∈ sizes, z ≤ 255) (hy : ∀ z ∈ ie, z ≤ 255) (hst : sst < 256) (hsd : sd < 4294967296) (hv : v < 256) (hl : bs.length ≤ 100000) (k4 : l4 = 0) (k5 : l5 = 0) :
    Calls Try.prog 28 #[.slice ao bs.length cap, .int .u8 (sst : Int), .bool true, .int .u32 (sd : Int), .slice ai l4 capi, .slice ap l5 capp, .slice az l6 capz, .bool long, .int .u8 (v : Int)] w fun e w' =>
      ∃ ao' cap' cs, e = .returned (.slice ao' cs.length cap') ∧ Wr w' base ao' cap' cs ∧ Below base w w' ∧ Hid (cs = wSn bs sst true sd ie pres sizes long v) := by
  have HE4 : Hid (ie.isEmpty = true) := (by have := HL4.out; cases ie <;> simp at * <;> omega : ie.isEmpty = true)
  have HE5 : Hid (pres.isEmpty = true) := (by have := HL5.out; cases pres <;> simp at * <;> omega : pres.isEmpty = true)
  subst k4
  subst k5
  obtain ⟨sdm, hsdm⟩ : ∃ m : Nat, m = sd % 16777216 := ⟨_, rfl⟩
  have hsb : sdm < 16777216 := by omega
  have hand24 : bits .and .u32 (sd : Int) 16777215 = (sdm : Int) := by rw [and24 sd hsd, hsdm]
  have HSD : Hid (sdm = sd % 16777216) := hsdm
  clear hsdm
  go_enter Try.func28, Try.ntmps28
  go_wp2_with fail
  refine (b2u false w).mono ?_
  rintro e w' ⟨rfl, rfl⟩
  go_wp2_with fail
  refine (put_wr base ao cap 1 0 bs w hw hb (by omega) (by omega) (by omega)).mono ?_
  rintro e w1 ⟨ao1, cap1, c1, rfl, hw1, hb1, H1⟩
  have hs1 := hb1.size
  have hc1 : c1.length ≤ bs.length + 1 := by rw [H1.out, List.length_append, bitsN_length]; exact Nat.le_refl _
  go_wp2_with fail
  refine (b2u true w1).mono ?_
  rintro e w' ⟨rfl, rfl⟩
  go_wp2_with fail
  refine (put_wr base ao1 cap1 1 1 c1 w1 hw1 (by omega) (by omega) (by omega) (by omega)).mono ?_
  rintro e w2 ⟨ao2, cap2, c2, rfl, hw2, hb2, H2⟩
  have hs2 := hb2.size
  have hc2 : c2.length ≤ c1.length + 1 := by rw [H2.out, List.length_append, bitsN_length]; exact Nat.le_refl _
  go_wp2_with fail
  refine (b2u false w2).mono ?_
  rintro e w' ⟨rfl, rfl⟩
  go_wp2_with fail
  refine (put_wr base ao2 cap2 1 0 c2 w2 hw2 (by omega) (by omega) (by omega) (by omega)).mono ?_
  rintro e w3 ⟨ao3, cap3, c3, rfl, hw3, hb3, H3⟩
  have hs3 := hb3.size
  have hc3 : c3.length ≤ c2.length + 1 := by rw [H3.out, List.length_append, bitsN_length]; exact Nat.le_refl _
  go_wp2_with fail
  refine (put_wr base ao3 cap3 8 sst c3 w3 hw3 (by omega) (by omega) (by omega) (by omega)).mono ?_
  rintro e w4 ⟨ao4, cap4, c4, rfl, hw4, hb4, H4⟩
  have hs4 := hb4.size
  have hc4 : c4.length ≤ c3.length + 8 := by rw [H4.out, List.length_append, bitsN_length]; exact Nat.le_refl _
  have hbw4 : Below base w w4 := ((hb1.trans hb2).trans hb3).trans hb4
  have HB1 : Hid (c4 = bs ++ bitsN (!pres.isEmpty).toNat 1 ++ bitsN (true).toNat 1 ++ bitsN (!ie.isEmpty).toNat 1 ++ bitsN sst 8) := by
    show _ = _
    rw [H4.out, H3.out, H2.out, H1.out, HE4.out, HE5.out]; rfl
  clear H1 H2 H3 H4 hw1 hw2 hw3 hb1 hb2 hb3 hb4
  go_wp2_with fail
  refine (align_wr base ao4 cap4 c4 w4 hw4 (by omega) (by omega)).mono ?_
  rintro e w5 ⟨ao5, cap5, c5, rfl, hw5, hb5, H5⟩
  have hs5 := hb5.size
  have hc5 : c5.length ≤ c4.length + 7 := by rw [H5.out, wAlign_length]; unfold al; omega
  go_wp2_with fail
  refine (put_wr base ao5 cap5 24 sdm c5 w5 hw5 (by omega) (by omega) (by omega) (by omega)).mono ?_
  rintro e w6 ⟨ao6, cap6, c6, rfl, hw6, hb6, H6⟩
  have hs6 := hb6.size
  have hc6 : c6.length ≤ c5.length + 24 := by rw [H6.out, List.length_append, bitsN_length]; exact Nat.le_refl _
  have hbw6 : Below base w w6 := (hbw4.trans hb5).trans hb6
  have HB2 : Hid (c6 = wAlign c4 ++ bitsN (sd % 16777216) 24) := by
    show _ = _
    rw [H6.out, H5.out, HSD.out]
  clear H5 H6 hw4 hw5 hb5 hb6 hand24
  clear hi
  go_wp2
  go_ret
  refine ⟨_, _, _, rfl, hw6, hbw6, ?_⟩
  show _ = _
  unfold wSn
  simp only
  rw [← HB1.out]
  simp only [HE4.out, HE5.out, if_true]
  rw [← HB2.out]

set_option maxRecDepth 100000 in
set_option maxHeartbeats 1000000 in
theorem sn_wr_101 (base : Nat) (ao : Option Addr) (cap sst sd v l4 l5 l6 : Nat) (bs pres : List Bool) (ie sizes : List Nat) (ai ap az : Option Addr) (capi capp capz : Nat) (long : Bool) (w : World) (hw : Wr w base ao cap bs) (hb : base ≤ w.heap.size)
    (hi : At w base ai (ie.map u16v)) (hp : At w base ap (pres.map Value.bool)) (hz : At w base az (sizes.map u16v)) (HL4 : Hid (ie.length = l4)) (HL5 : Hid (pres.length = l5)) (HL6 : Hid (sizes.length = l6))
    (h4 : l4 ≤ 200) (h5 : l5 ≤ 200) (h6 : l6 ≤ 200) (hs : ∀ z ∈ sizes, z ≤ 255) (hy : ∀ z ∈ ie, z ≤ 255) (hst : sst < 256) (hsd : sd < 4294967296) (hv : v < 256) (hl : bs.length ≤ 100000) (k4 : l4 = 0) (k5 : 1 ≤ l5) :
    Calls Try.prog 28 #[.slice ao bs.length cap, .int .u8 (sst : Int), .bool true, .int .u32 (sd : Int), .slice ai l4 capi, .slice ap l5 capp, .slice az l6 capz, .bool long, .int .u8 (v : Int)] w fun e w' =>
      ∃ ao' cap' cs, e = .returned (.slice ao' cs.length cap') ∧ Wr w' base ao' cap' cs ∧ Below base w w' ∧ Hid (cs = wSn bs sst true sd ie pres sizes long v) := by
  have HE4 : Hid (ie.isEmpty = true) := (by have := HL4.out; cases ie <;> simp at * <;> omega : ie.isEmpty = true)
  have HE5 : Hid (pres.isEmpty = false) := (by have := HL5.out; cases pres <;> simp at * <;> omega : pres.isEmpty = false)
  subst k4
  have t5 : decide (0 < l5) = true := by simp; omega
  obtain ⟨sdm, hsdm⟩ : ∃ m : Nat, m = sd % 16777216 := ⟨_, rfl⟩
  have hsb : sdm < 16777216 := by omega
  have hand24 : bits .and .u32 (sd : Int) 16777215 = (sdm : Int) := by rw [and24 sd hsd, hsdm]
  have HSD : Hid (sdm = sd % 16777216) := hsdm
  clear hsdm
  go_enter Try.func28, Try.ntmps28
  go_wp2_with fail
  refine (b2u true w).mono ?_
  rintro e w' ⟨rfl, rfl⟩
  go_wp2_with fail
  refine (put_wr base ao cap 1 1 bs w hw hb (by omega) (by omega) (by omega)).mono ?_
  rintro e w1 ⟨ao1, cap1, c1, rfl, hw1, hb1, H1⟩
  have hs1 := hb1.size
  have hc1 : c1.length ≤ bs.length + 1 := by rw [H1.out, List.length_append, bitsN_length]; exact Nat.le_refl _
  go_wp2_with fail
  refine (b2u true w1).mono ?_
  rintro e w' ⟨rfl, rfl⟩
  go_wp2_with fail
  refine (put_wr base ao1 cap1 1 1 c1 w1 hw1 (by omega) (by omega) (by omega) (by omega)).mono ?_
  rintro e w2 ⟨ao2, cap2, c2, rfl, hw2, hb2, H2⟩
  have hs2 := hb2.size
  have hc2 : c2.length ≤ c1.length + 1 := by rw [H2.out, List.length_append, bitsN_length]; exact Nat.le_refl _
  go_wp2_with fail
  refine (b2u false w2).mono ?_
  rintro e w' ⟨rfl, rfl⟩
  go_wp2_with fail
  refine (put_wr base ao2 cap2 1 0 c2 w2 hw2 (by omega) (by omega) (by omega) (by omega)).mono ?_
  rintro e w3 ⟨ao3, cap3, c3, rfl, hw3, hb3, H3⟩
  have hs3 := hb3.size
  have hc3 : c3.length ≤ c2.length + 1 := by rw [H3.out, List.length_append, bitsN_length]; exact Nat.le_refl _
  go_wp2_with fail
  refine (put_wr base ao3 cap3 8 sst c3 w3 hw3 (by omega) (by omega) (by omega) (by omega)).mono ?_
  rintro e w4 ⟨ao4, cap4, c4, rfl, hw4, hb4, H4⟩
  have hs4 := hb4.size
  have hc4 : c4.length ≤ c3.length + 8 := by rw [H4.out, List.length_append, bitsN_length]; exact Nat.le_refl _
  have hbw4 : Below base w w4 := ((hb1.trans hb2).trans hb3).trans hb4
  have HB1 : Hid (c4 = bs ++ bitsN (!pres.isEmpty).toNat 1 ++ bitsN (true).toNat 1 ++ bitsN (!ie.isEmpty).toNat 1 ++ bitsN sst 8) := by
    show _ = _
    rw [H4.out, H3.out, H2.out, H1.out, HE4.out, HE5.out]; rfl
  clear H1 H2 H3 H4 hw1 hw2 hw3 hb1 hb2 hb3 hb4
  go_wp2_with fail
  refine (align_wr base ao4 cap4 c4 w4 hw4 (by omega) (by omega)).mono ?_
  rintro e w5 ⟨ao5, cap5, c5, rfl, hw5, hb5, H5⟩
  have hs5 := hb5.size
  have hc5 : c5.length ≤ c4.length + 7 := by rw [H5.out, wAlign_length]; unfold al; omega
  go_wp2_with fail
  refine (put_wr base ao5 cap5 24 sdm c5 w5 hw5 (by omega) (by omega) (by omega) (by omega)).mono ?_
  rintro e w6 ⟨ao6, cap6, c6, rfl, hw6, hb6, H6⟩
  have hs6 := hb6.size
  have hc6 : c6.length ≤ c5.length + 24 := by rw [H6.out, List.length_append, bitsN_length]; exact Nat.le_refl _
  have hbw6 : Below base w w6 := (hbw4.trans hb5).trans hb6
  have HB2 : Hid (c6 = wAlign c4 ++ bitsN (sd % 16777216) 24) := by
    show _ = _
    rw [H6.out, H5.out, HSD.out]
  clear H5 H6 hw4 hw5 hb5 hb6 hand24
  clear hi
  go_wp2_with fail
  refine (ext_wr' base ao6 cap6 v l5 l6 c6 pres sizes ap az capp capz long w6 hw6 (by omega) (hp.below hbw6) (hz.below hbw6) HL5 HL6 k5 h5 h6 hs hv (by omega)).mono ?_
  rintro e wx ⟨aox, capx, cx, rfl, hwx, hbx, Hx⟩
  go_wp2
  go_ret
  refine ⟨_, _, _, rfl, hwx, hbw6.trans hbx, ?_⟩
  show _ = _
  rw [Hx.out]
  unfold wSn
  simp only
  rw [← HB1.out]
  simp only [HE4.out, HE5.out, if_true, Bool.false_eq_true, if_false]
  rw [← HB2.out]

set_option maxRecDepth 100000 in
set_option maxHeartbeats 1000000 in
theorem sn_wr_110 (base : Nat) (ao : Option Addr) (cap sst sd v l4 l5 l6 : Nat) (bs pres : List Bool) (ie sizes : List Nat) (ai ap az : Option Addr) (capi capp capz : Nat) (long : Bool) (w : World) (hw : Wr w base ao cap bs) (hb : base ≤ w.heap.size)
    (hi : At w base ai (ie.map u16v)) (hp : At w base ap (pres.map Value.bool)) (hz : At w base az (sizes.map u16v)) (HL4 : Hid (ie.length = l4)) (HL5 : Hid (pres.length = l5)) (HL6 : Hid (sizes.length = l6))
    (h4 : l4 ≤ 200) (h5 : l5 ≤ 200) (h6 : l6 ≤ 200) (hs : ∀ z ∈ sizes, z ≤ 255) (hy : ∀ z ∈ ie, z ≤ 255) (hst : sst < 256) (hsd : sd < 4294967296) (hv : v < 256) (hl : bs.length ≤ 100000) (k4 : 1 ≤ l4) (k5 : l5 = 0) :
    Calls Try.prog 28 #[.slice ao bs.length cap, .int .u8 (sst : Int), .bool true, .int .u32 (sd : Int), .slice ai l4 capi, .slice ap l5 capp, .slice az l6 capz, .bool long, .int .u8 (v : Int)] w fun e w' =>
      ∃ ao' cap' cs, e = .returned (.slice ao' cs.length cap') ∧ Wr w' base ao' cap' cs ∧ Below base w w' ∧ Hid (cs = wSn bs sst true sd ie pres sizes long v) := by
  have HE4 : Hid (ie.isEmpty = false) := (by have := HL4.out; cases ie <;> simp at * <;> omega : ie.isEmpty = false)
  have HE5 : Hid (pres.isEmpty = true) := (by have := HL5.out; cases pres <;> simp at * <;> omega : pres.isEmpty = true)
  have t4 : decide (0 < l4) = true := by simp; omega
  subst k5
  obtain ⟨sdm, hsdm⟩ : ∃ m : Nat, m = sd % 16777216 := ⟨_, rfl⟩
  have hsb : sdm < 16777216 := by omega
  have hand24 : bits .and .u32 (sd : Int) 16777215 = (sdm : Int) := by rw [and24 sd hsd, hsdm]
  have HSD : Hid (sdm = sd % 16777216) := hsdm
  clear hsdm
  go_enter Try.func28, Try.ntmps28
  go_wp2_with fail
  refine (b2u false w).mono ?_
  rintro e w' ⟨rfl, rfl⟩
  go_wp2_with fail
  refine (put_wr base ao cap 1 0 bs w hw hb (by omega) (by omega) (by omega)).mono ?_
  rintro e w1 ⟨ao1, cap1, c1, rfl, hw1, hb1, H1⟩
  have hs1 := hb1.size
  have hc1 : c1.length ≤ bs.length + 1 := by rw [H1.out, List.length_append, bitsN_length]; exact Nat.le_refl _
  go_wp2_with fail
  refine (b2u true w1).mono ?_
  rintro e w' ⟨rfl, rfl⟩
  go_wp2_with fail
  refine (put_wr base ao1 cap1 1 1 c1 w1 hw1 (by omega) (by omega) (by omega) (by omega)).mono ?_
  rintro e w2 ⟨ao2, cap2, c2, rfl, hw2, hb2, H2⟩
  have hs2 := hb2.size
  have hc2 : c2.length ≤ c1.length + 1 := by rw [H2.out, List.length_append, bitsN_length]; exact Nat.le_refl _
  go_wp2_with fail
  refine (b2u true w2).mono ?_
  rintro e w' ⟨rfl, rfl⟩
  go_wp2_with fail
  refine (put_wr base ao2 cap2 1 1 c2 w2 hw2 (by omega) (by omega) (by omega) (by omega)).mono ?_
  rintro e w3 ⟨ao3, cap3, c3, rfl, hw3, hb3, H3⟩
  have hs3 := hb3.size
  have hc3 : c3.length ≤ c2.length + 1 := by rw [H3.out, List.length_append, bitsN_length]; exact Nat.le_refl _
  go_wp2_with fail
  refine (put_wr base ao3 cap3 8 sst c3 w3 hw3 (by omega) (by omega) (by omega) (by omega)).mono ?_
  rintro e w4 ⟨ao4, cap4, c4, rfl, hw4, hb4, H4⟩
  have hs4 := hb4.size
  have hc4 : c4.length ≤ c3.length + 8 := by rw [H4.out, List.length_append, bitsN_length]; exact Nat.le_refl _
  have hbw4 : Below base w w4 := ((hb1.trans hb2).trans hb3).trans hb4
  have HB1 : Hid (c4 = bs ++ bitsN (!pres.isEmpty).toNat 1 ++ bitsN (true).toNat 1 ++ bitsN (!ie.isEmpty).toNat 1 ++ bitsN sst 8) := by
    show _ = _
    rw [H4.out, H3.out, H2.out, H1.out, HE4.out, HE5.out]; rfl
  clear H1 H2 H3 H4 hw1 hw2 hw3 hb1 hb2 hb3 hb4
  go_wp2_with fail
  refine (align_wr base ao4 cap4 c4 w4 hw4 (by omega) (by omega)).mono ?_
  rintro e w5 ⟨ao5, cap5, c5, rfl, hw5, hb5, H5⟩
  have hs5 := hb5.size
  have hc5 : c5.length ≤ c4.length + 7 := by rw [H5.out, wAlign_length]; unfold al; omega
  go_wp2_with fail
  refine (put_wr base ao5 cap5 24 sdm c5 w5 hw5 (by omega) (by omega) (by omega) (by omega)).mono ?_
  rintro e w6 ⟨ao6, cap6, c6, rfl, hw6, hb6, H6⟩
  have hs6 := hb6.size
  have hc6 : c6.length ≤ c5.length + 24 := by rw [H6.out, List.length_append, bitsN_length]; exact Nat.le_refl _
  have hbw6 : Below base w w6 := (hbw4.trans hb5).trans hb6
  have HB2 : Hid (c6 = wAlign c4 ++ bitsN (sd % 16777216) 24) := by
    show _ = _
    rw [H6.out, H5.out, HSD.out]
  clear H5 H6 hw4 hw5 hb5 hb6 hand24
  go_wp2_with fail
  refine (align_wr base ao6 cap6 c6 w6 hw6 (by omega) (by omega)).mono ?_
  rintro e w7 ⟨ao7, cap7, c7, rfl, hw7, hb7, H7⟩
  have hs7 := hb7.size
  have hc7 : c7.length ≤ c6.length + 7 := by rw [H7.out, wAlign_length]; unfold al; omega
  go_wp2_with fail
  have hsub : (l4 : Int) - 1 = ((l4 - 1 : Nat) : Int) := by omega
  rw [hsub]
  refine (put_wr base ao7 cap7 16 (l4 - 1) c7 w7 hw7 (by omega) (by omega) (by omega) (by omega)).mono ?_
  rintro e w8 ⟨ao8, cap8, c8, rfl, hw8, hb8, H8⟩
  have hs8 := hb8.size
  have hc8 : c8.length ≤ c7.length + 16 := by rw [H8.out, List.length_append, bitsN_length]; exact Nat.le_refl _
  have hbw8 : Below base w w8 := (hbw6.trans hb7).trans hb8
  have HB3 : Hid (c8 = wAlign c6 ++ bitsN (ie.length - 1) 16) := by
    show _ = _
    rw [H8.out, H7.out, HL4.out]
  have hi8 := hi.below hbw8
  clear H7 H8 hw7 hb7 hb8 hsub hw6 hi hw
  go_wp2
  go_loopw [0, 19] (fun s i wr => ∃ (j : Nat) (ao' : Option Addr) (cap' : Nat) (ds : List Bool), j ≤ l4 ∧ ds.length ≤ bs.length + 100 + 2100 * j ∧ i = .int .i64 (j : Int) ∧ s = .slice ao' ds.length cap' ∧ Wr wr base ao' cap' ds ∧ Below base w wr ∧ Below base w8 wr ∧ Hid (wItems v (ie.drop j) j ds = wItems v ie 0 c8)) (fun _ i _ => l4 - (intOf i).toNat)
  case atStart => exact ⟨0, ao8, cap8, c8, Nat.zero_le _, by omega, rfl, rfl, hw8, hbw8, Below.refl _ _, rfl⟩
  case round =>
    clear hw8
    obtain ⟨j, ao9, cap9, ds, hj, hcl, rfl, rfl, hw9, hbw9, hb89, HI⟩ := hrel
    have hs9 := hbw9.size
    by_cases hjl : j < l4
    · have hji : j < ie.length := by rw [HL4.out]; exact hjl
      obtain ⟨gi, hai, hgi, hci⟩ := (hi8.below hb89) j (u16v ie[j]) (by simp [List.getElem?_eq_getElem hji])
      have hzy := hy ie[j] (List.getElem_mem hji)
      have HI2 : Hid (wItems v (ie.drop (j + 1)) (j + 1) (wItem ds j ie[j] v) = wItems v ie 0 c8) := by
        show _ = _
        rw [← HI.out, List.drop_eq_getElem_cons hji, wItems]
      clear HI hi8
      generalize ie[j] = z at *
      subst hai
      unfold u16v at hci
      have hand := and65535 j (by omega)
      obtain ⟨r, hr⟩ : ∃ r : Nat, r = j % 3 := ⟨_, rfl⟩
      have hr3 : (j : Int) % 3 = (r : Int) := by omega
      have hrl : r < 3 := by omega
      have HR : Hid (r = j % 3) := hr
      clear hr
      go_wp2_with fail
      refine (align_wr base ao9 cap9 ds wr hw9 (by omega) (by omega)).mono ?_
      rintro e wa ⟨aoa, capa, ca, rfl, hwa, hba, Ha⟩
      have hsa := hba.size
      have hca : ca.length ≤ ds.length + 7 := by rw [Ha.out, wAlign_length]; unfold al; omega
      go_wp2_with fail
      refine (put_wr base aoa capa 16 j ca wa hwa (by omega) (by omega) (by omega) (by omega)).mono ?_
      rintro e wb ⟨aob, capb, cb, rfl, hwb, hbb, Hb⟩
      have hsb := hbb.size
      have hcb : cb.length ≤ ca.length + 16 := by rw [Hb.out, List.length_append, bitsN_length]; exact Nat.le_refl _
      go_wp2_with fail
      refine (put_wr base aob capb 2 r cb wb hwb (by omega) (by omega) (by omega) (by omega)).mono ?_
      rintro e wc ⟨aoc, capc, cc, rfl, hwc, hbc, Hc⟩
      have hsc := hbc.size
      have hcc : cc.length ≤ cb.length + 2 := by rw [Hc.out, List.length_append, bitsN_length]; exact Nat.le_refl _
      have hba3 := (hba.trans hbb).trans hbc
      have hcie : wc.cell? ⟨gi, j, none⟩ = some (.int .u16 (z : Int)) := (hba3.cell (p := ⟨gi, j, none⟩) hgi).trans hci
      go_wp2_with fail
      refine (open_wr base aoc capc z v cc wc hwc (by omega) (by omega) hv (by omega)).mono ?_
      rintro e wd ⟨aod, capd, cd, rfl, hwd, hbd, Hd⟩
      have HW : Hid (cd = wItem ds j z v) := item_is ds j z v (by omega) ca cb cc cd Ha.out Hb.out (by rw [Hc.out, HR.out]) Hd.out
      have hcd : cd.length ≤ ds.length + 2100 := by rw [HW.out]; exact wItem_len ds j z v hzy
      have hba4 := hba3.trans hbd
      clear Ha Hb Hc Hd
      go_wp2
      go_roundw
      case rel => exact ⟨j + 1, aod, capd, cd, by omega, by omega, by go_num, rfl, hwd, hbw9.trans hba4, hb89.trans hba4, by show _ = _; rw [HW.out]; exact HI2.out⟩
      case measure => simp [intOf]; omega
    · have HB4 : Hid (ds = wItems v ie 0 c8) := by
        show _ = _
        rw [← HI.out, List.drop_of_length_le (by rw [HL4.out]; omega), wItems]
      have hcl2 : ds.length ≤ 700000 := by omega
      clear HI hi8
      go_wp2
      go_ret
      refine ⟨_, _, _, rfl, hw9, hbw9, ?_⟩
      show _ = _
      unfold wSn
      simp only
      rw [← HB1.out]
      simp only [HE4.out, HE5.out, if_true, Bool.false_eq_true, if_false]
      rw [← HB2.out, ← HB3.out, ← HB4.out]

set_option maxRecDepth 100000 in
set_option maxHeartbeats 1000000 in
theorem sn_wr_111 (base : Nat) (ao : Option Addr) (cap sst sd v l4 l5 l6 : Nat) (bs pres : List Bool) (ie sizes : List Nat) (ai ap az : Option Addr) (capi capp capz : Nat) (long : Bool) (w : World) (hw : Wr w base ao cap bs) (hb : base ≤ w.heap.size)
    (hi : At w base ai (ie.map u16v)) (hp : At w base ap (pres.map Value.bool)) (hz : At w base az (sizes.map u16v)) (HL4 : Hid (ie.length = l4)) (HL5 : Hid (pres.length = l5)) (HL6 : Hid (sizes.length = l6))
    (h4 : l4 ≤ 200) (h5 : l5 ≤ 200) (h6 : l6 ≤ 200) (hs : ∀ z ∈ sizes, z ≤ 255) (hy : ∀ z ∈ ie, z ≤ 255) (hst : sst < 256) (hsd : sd < 4294967296) (hv : v < 256) (hl : bs.length ≤ 100000) (k4 : 1 ≤ l4) (k5 : 1 ≤ l5) :
    Calls Try.prog 28 #[.slice ao bs.length cap, .int .u8 (sst : Int), .bool true, .int .u32 (sd : Int), .slice ai l4 capi, .slice ap l5 capp, .slice az l6 capz, .bool long, .int .u8 (v : Int)] w fun e w' =>
      ∃ ao' cap' cs, e = .returned (.slice ao' cs.length cap') ∧ Wr w' base ao' cap' cs ∧ Below base w w' ∧ Hid (cs = wSn bs sst true sd ie pres sizes long v) := by
  have HE4 : Hid (ie.isEmpty = false) := (by have := HL4.out; cases ie <;> simp at * <;> omega : ie.isEmpty = false)
  have HE5 : Hid (pres.isEmpty = false) := (by have := HL5.out; cases pres <;> simp at * <;> omega : pres.isEmpty = false)
  have t4 : decide (0 < l4) = true := by simp; omega
  have t5 : decide (0 < l5) = true := by simp; omega
  obtain ⟨sdm, hsdm⟩ : ∃ m : Nat, m = sd % 16777216 := ⟨_, rfl⟩
  have hsb : sdm < 16777216 := by omega
  have hand24 : bits .and .u32 (sd : Int) 16777215 = (sdm : Int) := by rw [and24 sd hsd, hsdm]
  have HSD : Hid (sdm = sd % 16777216) := hsdm
  clear hsdm
  go_enter Try.func28, Try.ntmps28
  go_wp2_with fail
  refine (b2u true w).mono ?_
  rintro e w' ⟨rfl, rfl⟩
  go_wp2_with fail
  refine (put_wr base ao cap 1 1 bs w hw hb (by omega) (by omega) (by omega)).mono ?_
  rintro e w1 ⟨ao1, cap1, c1, rfl, hw1, hb1, H1⟩
  have hs1 := hb1.size
  have hc1 : c1.length ≤ bs.length + 1 := by rw [H1.out, List.length_append, bitsN_length]; exact Nat.le_refl _
  go_wp2_with fail
  refine (b2u true w1).mono ?_
  rintro e w' ⟨rfl, rfl⟩
  go_wp2_with fail
  refine (put_wr base ao1 cap1 1 1 c1 w1 hw1 (by omega) (by omega) (by omega) (by omega)).mono ?_
  rintro e w2 ⟨ao2, cap2, c2, rfl, hw2, hb2, H2⟩
  have hs2 := hb2.size
  have hc2 : c2.length ≤ c1.length + 1 := by rw [H2.out, List.length_append, bitsN_length]; exact Nat.le_refl _
  go_wp2_with fail
  refine (b2u true w2).mono ?_
  rintro e w' ⟨rfl, rfl⟩
  go_wp2_with fail
  refine (put_wr base ao2 cap2 1 1 c2 w2 hw2 (by omega) (by omega) (by omega) (by omega)).mono ?_
  rintro e w3 ⟨ao3, cap3, c3, rfl, hw3, hb3, H3⟩
  have hs3 := hb3.size
  have hc3 : c3.length ≤ c2.length + 1 := by rw [H3.out, List.length_append, bitsN_length]; exact Nat.le_refl _
  go_wp2_with fail
  refine (put_wr base ao3 cap3 8 sst c3 w3 hw3 (by omega) (by omega) (by omega) (by omega)).mono ?_
  rintro e w4 ⟨ao4, cap4, c4, rfl, hw4, hb4, H4⟩
  have hs4 := hb4.size
  have hc4 : c4.length ≤ c3.length + 8 := by rw [H4.out, List.length_append, bitsN_length]; exact Nat.le_refl _
  have hbw4 : Below base w w4 := ((hb1.trans hb2).trans hb3).trans hb4
  have HB1 : Hid (c4 = bs ++ bitsN (!pres.isEmpty).toNat 1 ++ bitsN (true).toNat 1 ++ bitsN (!ie.isEmpty).toNat 1 ++ bitsN sst 8) := by
    show _ = _
    rw [H4.out, H3.out, H2.out, H1.out, HE4.out, HE5.out]; rfl
  clear H1 H2 H3 H4 hw1 hw2 hw3 hb1 hb2 hb3 hb4
  go_wp2_with fail
  refine (align_wr base ao4 cap4 c4 w4 hw4 (by omega) (by omega)).mono ?_
  rintro e w5 ⟨ao5, cap5, c5, rfl, hw5, hb5, H5⟩
  have hs5 := hb5.size
  have hc5 : c5.length ≤ c4.length + 7 := by rw [H5.out, wAlign_length]; unfold al; omega
  go_wp2_with fail
  refine (put_wr base ao5 cap5 24 sdm c5 w5 hw5 (by omega) (by omega) (by omega) (by omega)).mono ?_
  rintro e w6 ⟨ao6, cap6, c6, rfl, hw6, hb6, H6⟩
  have hs6 := hb6.size
  have hc6 : c6.length ≤ c5.length + 24 := by rw [H6.out, List.length_append, bitsN_length]; exact Nat.le_refl _
  have hbw6 : Below base w w6 := (hbw4.trans hb5).trans hb6
  have HB2 : Hid (c6 = wAlign c4 ++ bitsN (sd % 16777216) 24) := by
    show _ = _
    rw [H6.out, H5.out, HSD.out]
  clear H5 H6 hw4 hw5 hb5 hb6 hand24
  go_wp2_with fail
  refine (align_wr base ao6 cap6 c6 w6 hw6 (by omega) (by omega)).mono ?_
  rintro e w7 ⟨ao7, cap7, c7, rfl, hw7, hb7, H7⟩
  have hs7 := hb7.size
  have hc7 : c7.length ≤ c6.length + 7 := by rw [H7.out, wAlign_length]; unfold al; omega
  go_wp2_with fail
  have hsub : (l4 : Int) - 1 = ((l4 - 1 : Nat) : Int) := by omega
  rw [hsub]
  refine (put_wr base ao7 cap7 16 (l4 - 1) c7 w7 hw7 (by omega) (by omega) (by omega) (by omega)).mono ?_
  rintro e w8 ⟨ao8, cap8, c8, rfl, hw8, hb8, H8⟩
  have hs8 := hb8.size
  have hc8 : c8.length ≤ c7.length + 16 := by rw [H8.out, List.length_append, bitsN_length]; exact Nat.le_refl _
  have hbw8 : Below base w w8 := (hbw6.trans hb7).trans hb8
  have HB3 : Hid (c8 = wAlign c6 ++ bitsN (ie.length - 1) 16) := by
    show _ = _
    rw [H8.out, H7.out, HL4.out]
  have hi8 := hi.below hbw8
  clear H7 H8 hw7 hb7 hb8 hsub hw6 hi hw
  go_wp2
  go_loopw [0, 19] (fun s i wr => ∃ (j : Nat) (ao' : Option Addr) (cap' : Nat) (ds : List Bool), j ≤ l4 ∧ ds.length ≤ bs.length + 100 + 2100 * j ∧ i = .int .i64 (j : Int) ∧ s = .slice ao' ds.length cap' ∧ Wr wr base ao' cap' ds ∧ Below base w wr ∧ Below base w8 wr ∧ Hid (wItems v (ie.drop j) j ds = wItems v ie 0 c8)) (fun _ i _ => l4 - (intOf i).toNat)
  case atStart => exact ⟨0, ao8, cap8, c8, Nat.zero_le _, by omega, rfl, rfl, hw8, hbw8, Below.refl _ _, rfl⟩
  case round =>
    clear hw8
    obtain ⟨j, ao9, cap9, ds, hj, hcl, rfl, rfl, hw9, hbw9, hb89, HI⟩ := hrel
    have hs9 := hbw9.size
    by_cases hjl : j < l4
    · have hji : j < ie.length := by rw [HL4.out]; exact hjl
      obtain ⟨gi, hai, hgi, hci⟩ := (hi8.below hb89) j (u16v ie[j]) (by simp [List.getElem?_eq_getElem hji])
      have hzy := hy ie[j] (List.getElem_mem hji)
      have HI2 : Hid (wItems v (ie.drop (j + 1)) (j + 1) (wItem ds j ie[j] v) = wItems v ie 0 c8) := by
        show _ = _
        rw [← HI.out, List.drop_eq_getElem_cons hji, wItems]
      clear HI hi8
      generalize ie[j] = z at *
      subst hai
      unfold u16v at hci
      have hand := and65535 j (by omega)
      obtain ⟨r, hr⟩ : ∃ r : Nat, r = j % 3 := ⟨_, rfl⟩
      have hr3 : (j : Int) % 3 = (r : Int) := by omega
      have hrl : r < 3 := by omega
      have HR : Hid (r = j % 3) := hr
      clear hr
      go_wp2_with fail
      refine (align_wr base ao9 cap9 ds wr hw9 (by omega) (by omega)).mono ?_
      rintro e wa ⟨aoa, capa, ca, rfl, hwa, hba, Ha⟩
      have hsa := hba.size
      have hca : ca.length ≤ ds.length + 7 := by rw [Ha.out, wAlign_length]; unfold al; omega
      go_wp2_with fail
      refine (put_wr base aoa capa 16 j ca wa hwa (by omega) (by omega) (by omega) (by omega)).mono ?_
      rintro e wb ⟨aob, capb, cb, rfl, hwb, hbb, Hb⟩
      have hsb := hbb.size
      have hcb : cb.length ≤ ca.length + 16 := by rw [Hb.out, List.length_append, bitsN_length]; exact Nat.le_refl _
      go_wp2_with fail
      refine (put_wr base aob capb 2 r cb wb hwb (by omega) (by omega) (by omega) (by omega)).mono ?_
      rintro e wc ⟨aoc, capc, cc, rfl, hwc, hbc, Hc⟩
      have hsc := hbc.size
      have hcc : cc.length ≤ cb.length + 2 := by rw [Hc.out, List.length_append, bitsN_length]; exact Nat.le_refl _
      have hba3 := (hba.trans hbb).trans hbc
      have hcie : wc.cell? ⟨gi, j, none⟩ = some (.int .u16 (z : Int)) := (hba3.cell (p := ⟨gi, j, none⟩) hgi).trans hci
      go_wp2_with fail
      refine (open_wr base aoc capc z v cc wc hwc (by omega) (by omega) hv (by omega)).mono ?_
      rintro e wd ⟨aod, capd, cd, rfl, hwd, hbd, Hd⟩
      have HW : Hid (cd = wItem ds j z v) := item_is ds j z v (by omega) ca cb cc cd Ha.out Hb.out (by rw [Hc.out, HR.out]) Hd.out
      have hcd : cd.length ≤ ds.length + 2100 := by rw [HW.out]; exact wItem_len ds j z v hzy
      have hba4 := hba3.trans hbd
      clear Ha Hb Hc Hd
      go_wp2
      go_roundw
      case rel => exact ⟨j + 1, aod, capd, cd, by omega, by omega, by go_num, rfl, hwd, hbw9.trans hba4, hb89.trans hba4, by show _ = _; rw [HW.out]; exact HI2.out⟩
      case measure => simp [intOf]; omega
    · have HB4 : Hid (ds = wItems v ie 0 c8) := by
        show _ = _
        rw [← HI.out, List.drop_of_length_le (by rw [HL4.out]; omega), wItems]
      have hcl2 : ds.length ≤ 700000 := by omega
      clear HI hi8
      go_wp2_with fail
      refine (ext_wr' base ao9 cap9 v l5 l6 ds pres sizes ap az capp capz long wr hw9 (by omega) (hp.below hbw9) (hz.below hbw9) HL5 HL6 k5 h5 h6 hs hv (by omega)).mono ?_
      rintro e wx ⟨aox, capx, cx, rfl, hwx, hbx, Hx⟩
      go_wp2
      go_ret
      refine ⟨_, _, _, rfl, hwx, hbw9.trans hbx, ?_⟩
      show _ = _
      rw [Hx.out]
      unfold wSn
      simp only
      rw [← HB1.out]
      simp only [HE4.out, HE5.out, if_true, Bool.false_eq_true, if_false]
      rw [← HB2.out, ← HB3.out, ← HB4.out]

/-- THE CONTRACT of 'zzEncSNSSAI'. -/
theorem sn_wr (base : Nat) (ao : Option Addr) (cap sst sd v l4 l5 l6 : Nat) (bs pres : List Bool) (ie sizes : List Nat) (ai ap az : Option Addr) (capi capp capz : Nat) (hasSD long : Bool) (w : World) (hw : Wr w base ao cap bs) (hb : base ≤ w.heap.size)
    (hi : At w base ai (ie.map u16v)) (hp : At w base ap (pres.map Value.bool)) (hz : At w base az (sizes.map u16v)) (HL4 : Hid (ie.length = l4)) (HL5 : Hid (pres.length = l5)) (HL6 : Hid (sizes.length = l6))
    (h4 : l4 ≤ 200) (h5 : l5 ≤ 200) (h6 : l6 ≤ 200) (hs : ∀ z ∈ sizes, z ≤ 255) (hy : ∀ z ∈ ie, z ≤ 255) (hst : sst < 256) (hsd : sd < 4294967296) (hv : v < 256) (hl : bs.length ≤ 100000) :
    Calls Try.prog 28 #[.slice ao bs.length cap, .int .u8 (sst : Int), .bool hasSD, .int .u32 (sd : Int), .slice ai l4 capi, .slice ap l5 capp, .slice az l6 capz, .bool long, .int .u8 (v : Int)] w fun e w' =>
      ∃ ao' cap' cs, e = .returned (.slice ao' cs.length cap') ∧ Wr w' base ao' cap' cs ∧ Below base w w' ∧ Hid (cs = wSn bs sst hasSD sd ie pres sizes long v) := by
  by_cases k4 : 1 ≤ l4 <;> by_cases k5 : 1 ≤ l5 <;> cases hasSD
  · exact sn_wr_011 base ao cap sst sd v l4 l5 l6 bs pres ie sizes ai ap az capi capp capz long w hw hb hi hp hz HL4 HL5 HL6 h4 h5 h6 hs hy hst hsd hv hl k4 k5
  · exact sn_wr_111 base ao cap sst sd v l4 l5 l6 bs pres ie sizes ai ap az capi capp capz long w hw hb hi hp hz HL4 HL5 HL6 h4 h5 h6 hs hy hst hsd hv hl k4 k5
  · exact sn_wr_010 base ao cap sst sd v l4 l5 l6 bs pres ie sizes ai ap az capi capp capz long w hw hb hi hp hz HL4 HL5 HL6 h4 h5 h6 hs hy hst hsd hv hl k4 (by omega)
  · exact sn_wr_110 base ao cap sst sd v l4 l5 l6 bs pres ie sizes ai ap az capi capp capz long w hw hb hi hp hz HL4 HL5 HL6 h4 h5 h6 hs hy hst hsd hv hl k4 (by omega)
  · exact sn_wr_001 base ao cap sst sd v l4 l5 l6 bs pres ie sizes ai ap az capi capp capz long w hw hb hi hp hz HL4 HL5 HL6 h4 h5 h6 hs hy hst hsd hv hl (by omega) k5
  · exact sn_wr_101 base ao cap sst sd v l4 l5 l6 bs pres ie sizes ai ap az capi capp capz long w hw hb hi hp hz HL4 HL5 HL6 h4 h5 h6 hs hy hst hsd hv hl (by omega) k5
  · exact sn_wr_000 base ao cap sst sd v l4 l5 l6 bs pres ie sizes ai ap az capi capp capz long w hw hb hi hp hz HL4 HL5 HL6 h4 h5 h6 hs hy hst hsd hv hl (by omega) (by omega)
  · exact sn_wr_100 base ao cap sst sd v l4 l5 l6 bs pres ie sizes ai ap az capi capp capz long w hw hb hi hp hz HL4 HL5 HL6 h4 h5 h6 hs hy hst hsd hv hl (by omega) (by omega)
end Go.Proofs.Qxb6002696a
