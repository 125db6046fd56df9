/- What the two laws on skipSNSSAI share. -/
import Derived.Test.Qxb6002696aEncSn
import Derived.Test.Qxb6002696aFnExtEnds
namespace Go.Proofs.Qxb6002696a
open Go.RowKit
set_option linter.unusedVariables false

theorem wItems_len (v : Nat) : ∀ (zs : List Nat) (i : Nat) (bs : List Bool), (∀ z ∈ zs, z ≤ 255) → (wItems v zs i bs).length ≤ bs.length + 2100 * zs.length
  | [], _, bs, _ => by simp [wItems]
  | z :: zs, i, bs, h => by
    rw [wItems]
    have h1 := wItems_len v zs (i + 1) (wItem bs i z v) (fun y hy => h y (List.mem_cons_of_mem _ hy))
    have h2 := wItem_len bs i z v (h z List.mem_cons_self)
    rw [List.length_cons]
    omega
theorem wSn_len (bs : List Bool) (sst : Nat) (hasSD : Bool) (sd : Nat) (ie : List Nat) (pres : List Bool) (sizes : List Nat) (long : Bool) (v : Nat) (hs : ∀ z ∈ sizes, z ≤ 255) (hy : ∀ z ∈ ie, z ≤ 255) :
    (wSn bs sst hasSD sd ie pres sizes long v).length ≤ bs.length + 200 + 2100 * ie.length + 2064 * pres.length ∧ 1 ≤ (wSn bs sst hasSD sd ie pres sizes long v).length := by
  unfold wSn
  simp only
  have e1 : (bs ++ bitsN (!pres.isEmpty).toNat 1 ++ bitsN hasSD.toNat 1 ++ bitsN (!ie.isEmpty).toNat 1 ++ bitsN sst 8).length = bs.length + 11 := by simp [bitsN_length]
  generalize bs ++ bitsN (!pres.isEmpty).toNat 1 ++ bitsN hasSD.toNat 1 ++ bitsN (!ie.isEmpty).toNat 1 ++ bitsN sst 8 = b1 at *
  have e2 : (if hasSD = true then wAlign b1 ++ bitsN (sd % 16777216) 24 else b1).length ≤ bs.length + 42 ∧ 1 ≤ (if hasSD = true then wAlign b1 ++ bitsN (sd % 16777216) 24 else b1).length := by
    split
    · rw [List.length_append, wAlign_length, bitsN_length]; unfold al; omega
    · omega
  generalize (if hasSD = true then wAlign b1 ++ bitsN (sd % 16777216) 24 else b1) = b2 at *
  have e3 : (if ie.isEmpty = true then b2 else wItems v ie 0 (wAlign b2 ++ bitsN (ie.length - 1) 16)).length ≤ bs.length + 100 + 2100 * ie.length ∧ 1 ≤ (if ie.isEmpty = true then b2 else wItems v ie 0 (wAlign b2 ++ bitsN (ie.length - 1) 16)).length := by
    split
    · omega
    · have h1 := wItems_len v ie 0 (wAlign b2 ++ bitsN (ie.length - 1) 16) hy
      have h2 := (wItems_pre v ie 0 (wAlign b2 ++ bitsN (ie.length - 1) 16)).length_le
      rw [List.length_append, wAlign_length, bitsN_length] at h1 h2
      unfold al at h1 h2
      omega
  generalize (if ie.isEmpty = true then b2 else wItems v ie 0 (wAlign b2 ++ bitsN (ie.length - 1) 16)) = b3 at *
  split
  · omega
  · have h1 := wExt_len b3 pres sizes long v hs
    have h2 := (wExt_pre b3 pres sizes long v).length_le
    omega
end Go.Proofs.Qxb6002696a
