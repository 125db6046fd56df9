/- '(*tsnLog).seen' (32): the walks, a theorem a branch. -/
import Derived.Test.Qxb6002696aTsn
import Derived.Deep.QuietTactic
import Derived.BigQuiet
import Derived.RegionTactic
import Derived.Deep.RegionHeld3
import Derived.Deep.LoopGhost
namespace Go.Proofs.Qxb6002696a
open Go.RowKit Go.Maps
set_option linter.unusedVariables false

theorem below_drewN {B : Nat} {a w : World} (h : Below B a w) (n : Nat) : Below B a (w.drewN n) := ⟨h.os, h.tape, h.output, h.size, h.block⟩

/-- The store of a 'true' into the log's map, for the walk. -/
theorem wpList_put_ap (w : World) {ops : Array Oper} {rest : List Oper} {o : Oper} {a : Act} {Q : Exit → Act → World → Prop}
    (hg : o.guard = none) (m x v : Operand) (hop : o.op = Op.mapUpdate 26 m x v) (b mm : Nat) (ap : Int → Bool) (s N : Nat) (h : ApIs w b (some mm) ap s N) (hN : N < maxLen) (t : Int) (ht : R32 t)
    (hm : a.eval m = .map (some mm)) (hx : a.eval x = .int .u32 t) (hv : a.eval v = .bool true)
    (hK : ∀ w', ApIs w' b (some mm) (putAp ap t) (s + 1) (N + 1) → w.mapTurned w' mm → wpList Try.prog ops Q rest (a.put o.dst undef) w') :
    wpList Try.prog ops Q (o :: rest) a w := by
  refine wpList_plain hg fun K' hK' => ?_
  obtain ⟨w', hrun, r1, r2⟩ := h.put hN ht
  unfold Oper.wp
  simp [execOp, hop, hm, hx, hv, hrun, Result.andThen]
  exact hK' _ _ (hK w' r1 r2)

theorem wrapU32 (x : Int) : IntKind.wrap .u32 x = x % 4294967296 := by
  simp [IntKind.wrap, IntKind.signed, IntKind.bits]

/-- 'delete' on the log's map, as one step of a region that draws. -/
theorem step_del_ap {ops : Array Oper} {o : Oper} {a : Act} {w : World} {K : Act → World → Prop} {Q : Exit → Act → World → Prop} {E : Prop}
    (hg : o.guard = none) (hty : o.type = 0) (m x : Operand) (hop : o.op = Op.call { callee := Callee.builtin Builtin.delete, args := #[m, x], argTypes := #[26, 25] })
    (b mm : Nat) (ap : Int → Bool) (s N : Nat) (h : ApIs w b (some mm) ap s N) (t t' : Int) (et : t' = t) (ht : R32 t) (hap : ap t = true)
    (hm : a.eval m = .map (some mm)) (hx : a.eval x = .int .u32 t')
    (hK : ∀ w', ApIs w' b (some mm) (delAp ap t) (s - 1) N → w.mapTurned w' mm → K (a.put o.dst (.tuple #[])) w') :
    if Region.wanted o (yielded ops a.tmps) = true then Oper.wp Try.prog o a w K Q else E := by
  have hw : Region.wanted o (yielded ops a.tmps) = true := by simp [Region.wanted, hg]
  rw [if_pos hw]
  subst et
  obtain ⟨m', w', hmo, _, _, _, hrun, r1, r2⟩ := h.del ht hap
  cases hmo
  unfold Oper.wp
  simp [execOp, hop, resolve, invoke, builtin, hm, hx, hty, hrun, Result.andThen]
  exact hK w' r1 r2

/-- Behind a turn of the map in block m the block b reads as before. -/
theorem turned_keep {w w1 : World} {b m : Nat} (h : w.mapTurned w1 m) (hm : b < m) : (∀ j, w1.cell? ⟨b, j, none⟩ = w.cell? ⟨b, j, none⟩) ∧ ∀ j, w1.frozen? ⟨b, j, none⟩ = w.frozen? ⟨b, j, none⟩ := by
  obtain ⟨es, clock, es', clock', hb, rfl⟩ := h
  have e := ChangeMaps.heap_setBlock_other hb (.map es' clock') (show b ≠ m by omega)
  exact ⟨fun j => World.cell?_of_block (a := ⟨b, j, none⟩) e, fun j => World.frozen?_of_block (a := ⟨b, j, none⟩) e⟩

/-- The cells of the log's block, for the walk. -/
theorem log_cells {w : World} {b : Nat} {st : Bool} {f l : Int} {mo : Option Nat} (hb : w.heap[b]? = some (logCells st f l mo)) :
    w.cell? ⟨b, 0, none⟩ = some (.bool st) ∧ w.cell? ⟨b, 1, none⟩ = some (.int .u32 f) ∧ w.cell? ⟨b, 2, none⟩ = some (.int .u32 l) ∧ w.cell? ⟨b, 3, none⟩ = some (.map mo) ∧ ∀ j, w.frozen? ⟨b, j, none⟩ = false := by
  unfold logCells at hb
  refine ⟨?_, ?_, ?_, ?_, fun j => ?_⟩ <;> simp [World.cell?, World.frozen?, hb]

theorem cell_set_same {w : World} {b i : Nat} {v u : Value} (h : w.cell? ⟨b, i, none⟩ = some v) : (w.setCell ⟨b, i, none⟩ u).cell? ⟨b, i, none⟩ = some u := World.cell?_setCell_same _ _ _ h

theorem first_log {w : World} {b : Nat} {st : Bool} {f l : Int} {mo : Option Nat} (hb : w.heap[b]? = some (logCells st f l mo)) (t : Int) :
    ((((w.setCell ⟨b, 0, none⟩ (.bool true)).setCell ⟨b, 1, none⟩ (.int .u32 t)).setCell ⟨b, 2, none⟩ (.int .u32 t)).setCell ⟨b, 3, none⟩ (.map none)).heap[b]? = some (logCells true t t none) ∧
    Below b w ((((w.setCell ⟨b, 0, none⟩ (.bool true)).setCell ⟨b, 1, none⟩ (.int .u32 t)).setCell ⟨b, 2, none⟩ (.int .u32 t)).setCell ⟨b, 3, none⟩ (.map none)) := by
  unfold logCells at hb
  refine ⟨heap_setCell_same (heap_setCell_same (heap_setCell_same (heap_setCell_same hb _) _) _) _, ?_⟩
  refine Below.setCell ?_ (by exact Nat.le_refl b) _
  refine Below.setCell ?_ (by exact Nat.le_refl b) _
  refine Below.setCell ?_ (by exact Nat.le_refl b) _
  exact (Below.refl _ _).setCell (by exact Nat.le_refl b) _

set_option maxHeartbeats 1000000 in
theorem seen_first (b : Nat) (t f l : Int) (mo : Option Nat) (w : World) (hb : w.heap[b]? = some (logCells false f l mo)) :
    Calls Try.prog 32 #[.pointer (some ⟨b, 0, none⟩), .int .u32 t] w fun e w' => e = .returned (.bool false) ∧ w'.heap[b]? = some (logCells true t t none) ∧ Below b w w' := by
  obtain ⟨c0, c1, c2, c3, z0⟩ := log_cells hb
  have hb' : Hid (w.heap[b]? = some (logCells false f l mo)) := hb
  clear hb
  go_enter Try.func32, Try.ntmps32
  go_wp2
  go_ret
  exact ⟨rfl, first_log hb'.out t⟩

set_option maxHeartbeats 1000000 in
theorem seen_in (b : Nat) (t f l : Int) (mo : Option Nat) (w : World) (hb : w.heap[b]? = some (logCells true f l mo)) (hin : (t - f) % 4294967296 ≤ (l - f) % 4294967296) :
    Calls Try.prog 32 #[.pointer (some ⟨b, 0, none⟩), .int .u32 t] w fun e w' => e = .returned (.bool true) ∧ ∃ n, w' = w.drewN n := by
  obtain ⟨c0, c1, c2, c3, z0⟩ := log_cells hb
  clear hb
  go_enter Try.func32, Try.ntmps32
  go_wp2
  go_quiet (fail)
  go_wp2
  go_ret
  exact ⟨rfl, _, rfl⟩

set_option maxHeartbeats 1000000 in
theorem seen_apart (b : Nat) (t f l : Int) (mo : Option Nat) (w : World) (hb : w.heap[b]? = some (logCells true f l mo)) (hin : (l - f) % 4294967296 < (t - f) % 4294967296)
    (hlk : ∀ n, (Instr.lookup 26 (.map mo) (.int .u32 t) false).run Try.prog (w.drewN n) = .ok (.bool true) (w.drewN n)) :
    Calls Try.prog 32 #[.pointer (some ⟨b, 0, none⟩), .int .u32 t] w fun e w' => e = .returned (.bool true) ∧ ∃ n, w' = w.drewN n := by
  obtain ⟨c0, c1, c2, c3, z0⟩ := log_cells hb
  clear hb
  go_enter Try.func32, Try.ntmps32
  go_wp2
  go_quiet (fail)
  go_wp2
  go_ret
  exact ⟨rfl, _, rfl⟩

set_option maxHeartbeats 1000000 in
theorem seen_far (b : Nat) (t f l : Int) (m N s : Nat) (ap : Int → Bool) (w : World) (hb : w.heap[b]? = some (logCells true f l (some m))) (hin : (l - f) % 4294967296 < (t - f) % 4294967296)
    (hlk : ∀ n, (Instr.lookup 26 (.map (some m)) (.int .u32 t) false).run Try.prog (w.drewN n) = .ok (.bool false) (w.drewN n)) (hne : t ≠ (l + 1) % 4294967296)
    (hap : ∀ n, ApIs (w.drewN n) b (some m) ap s N) (hN : N < maxLen) (ht : R32 t) :
    Calls Try.prog 32 #[.pointer (some ⟨b, 0, none⟩), .int .u32 t] w fun e w' => e = .returned (.bool false) ∧ ∃ n, ApIs w' b (some m) (putAp ap t) (s + 1) (N + 1) ∧ (w.drewN n).mapTurned w' m := by
  obtain ⟨c0, c1, c2, c3, z0⟩ := log_cells hb
  clear hb
  have hnil := fun w r => run_eql_map_nil (P := Try.prog) w 26 25 4 r Try.underlying26
  go_enter Try.func32, Try.ntmps32
  go_wp2
  go_quiet (fail)
  go_wp2_with (at_mapUpdate; refine wpList_put_ap _ rfl _ _ _ rfl b m ap s N (hap _) hN t ht rfl rfl rfl ?_; intro w1 hap1 hturn1)
  go_ret
  exact ⟨rfl, _, hap1, hturn1⟩

set_option maxHeartbeats 1000000 in
theorem seen_new (b : Nat) (t f l : Int) (N s : Nat) (w : World) (hb : w.heap[b]? = some (logCells true f l none)) (hin : (l - f) % 4294967296 < (t - f) % 4294967296)
    (hlk : ∀ n, (Instr.lookup 26 (.map none) (.int .u32 t) false).run Try.prog (w.drewN n) = .ok (.bool false) (w.drewN n)) (hne : t ≠ (l + 1) % 4294967296)
    (hap : ∀ n, ApIs (((w.drewN n).alloc (.map #[] 0)).setCell ⟨b, 3, none⟩ (.map (some w.heap.size))) b (some w.heap.size) (fun _ => false) s N) (hN : N < maxLen) (ht : R32 t) :
    Calls Try.prog 32 #[.pointer (some ⟨b, 0, none⟩), .int .u32 t] w fun e w' => e = .returned (.bool false) ∧
      ∃ n, ApIs w' b (some w.heap.size) (putAp (fun _ => false) t) (s + 1) (N + 1) ∧ (((w.drewN n).alloc (.map #[] 0)).setCell ⟨b, 3, none⟩ (.map (some w.heap.size))).mapTurned w' w.heap.size := by
  obtain ⟨c0, c1, c2, c3, z0⟩ := log_cells hb
  have hlt : b < w.heap.size := (Array.getElem?_eq_some_iff.1 hb).1
  clear hb
  have a3 : ∀ n, ((w.drewN n).alloc (.map #[] 0)).cell? ⟨b, 3, none⟩ = some (.map none) := fun n => (World.cell?_of_block (w := w.drewN n) (Below.heap_alloc (w.drewN n) _ b hlt)).trans c3
  have b3 : ∀ n, ((w.drewN n).alloc (.map #[] 0)).frozen? ⟨b, 3, none⟩ = false := fun n => (World.frozen?_of_block (w := w.drewN n) (Below.heap_alloc (w.drewN n) _ b hlt)).trans (z0 3)
  have d3 : ∀ n u, (((w.drewN n).alloc (.map #[] 0)).setCell ⟨b, 3, none⟩ u).cell? ⟨b, 3, none⟩ = some u := fun n u => cell_set_same (a3 n)
  have hnil := fun w r => run_eql_map_nil (P := Try.prog) w 26 25 4 r Try.underlying26
  have hmm := @run_makeMap Try.prog
  go_enter Try.func32, Try.ntmps32
  go_wp2
  go_quiet (fail)
  go_wp2_with (at_mapUpdate; refine wpList_put_ap _ rfl _ _ _ rfl b _ _ s N (hap _) hN t ht rfl rfl rfl ?_; intro w1 hap1 hturn1)
  go_ret
  exact ⟨rfl, _, hap1, hturn1⟩
/-- What the loop of 'seen' keeps: the log from f to l', and what is apart, come to the same numbers. -/
def Loop (w wr : World) (b : Nat) (f l : Int) (mo : Option Nat) (ap : Int → Bool) (s N : Nat) (s' : Nat) : Prop :=
  ∃ l' ap', wr.heap[b]? = some (logCells true f l' mo) ∧ R32 l' ∧ ApIs wr b mo ap' s' N ∧ (l' - f) % 4294967296 + s' ≤ (l - f) % 4294967296 + s ∧ (∀ x, R32 x → logHas f l' ap' x = logHas f l ap x) ∧ Below b w wr

theorem R32_succ (l : Int) : R32 ((l + 1) % 4294967296) := by unfold R32; omega

theorem loop_start {w : World} {b : Nat} {f l t : Int} {mo : Option Nat} {ap : Int → Bool} {s N : Nat} (hb : w.heap[b]? = some (logCells true f l mo)) (ht : R32 t) (hap : ApIs w b mo ap s N) (n : Nat) :
    Loop w ((w.drewN n).setCell ⟨b, 2, none⟩ (.int .u32 t)) b f t mo ap s N s := by
  refine ⟨t, ap, ?_, ht, hap.kept fun m hm _ => Below.heap_setCell _ _ _ _ (by simp; omega), Int.le_refl _, fun _ _ => rfl, (below_drewN (Below.refl _ _) n).setCell (by exact Nat.le_refl b) _⟩
  unfold logCells at hb
  exact heap_setCell_same (w := w.drewN n) hb _

/-- One round: the number that follows the interval is struck from the map and taken into the interval. -/
theorem loop_step {w wr w1 : World} {b m n : Nat} {f l l' : Int} {ap ap' : Int → Bool} {s N k : Nat} (hb : wr.heap[b]? = some (logCells true f l' (some m))) (hl' : R32 l') (hf : R32 f) (hm : b < m) (hsm : (l - f) % 4294967296 + s < 4294967290)
    (hsz : (l' - f) % 4294967296 + k ≤ (l - f) % 4294967296 + s) (hk : 0 < k) (heq : ∀ x, R32 x → logHas f l' ap' x = logHas f l ap x) (hbel : Below b w wr) (hap : ap' ((l' + 1) % 4294967296) = true)
    (hap1 : ApIs w1 b (some m) (delAp ap' ((l' + 1) % 4294967296)) (k - 1) N) (hturn : (wr.drewN n).mapTurned w1 m) :
    Loop w (w1.setCell ⟨b, 2, none⟩ (.int .u32 ((l' + 1) % 4294967296))) b f l (some m) ap s N (k - 1) := by
  have hs' : (l' - f) % 4294967296 < 4294967295 := by omega
  have hg := hturn.grown
  have hblt : b < wr.heap.size := (Array.getElem?_eq_some_iff.1 hb).1
  have hb1 : w1.heap[b]? = some (logCells true f l' (some m)) := (hg.block b hblt (by intro e; cases e; omega)).trans hb
  refine ⟨(l' + 1) % 4294967296, _, ?_, R32_succ _, hap1.kept fun m hm _ => Below.heap_setCell _ _ _ _ (by simp; omega), ?_, fun x hx => ?_, ?_⟩
  · unfold logCells at hb1
    exact heap_setCell_same hb1 _
  · rw [run_succ hf hl' hs']; omega
  · rw [logHas_take hf hl' hx hs' hap]; exact heq x hx
  · refine Below.setCell ?_ (by exact Nat.le_refl b) _
    exact (below_drewN hbel n).grown hg (by simp; omega) (by intro k e; cases e; omega)

set_option maxHeartbeats 2000000 in
theorem seen_next (b : Nat) (t f l : Int) (mo : Option Nat) (N s : Nat) (ap : Int → Bool) (w : World) (hb : w.heap[b]? = some (logCells true f l mo)) (hin : (l - f) % 4294967296 < (t - f) % 4294967296)
    (hlk : ∀ n, (Instr.lookup 26 (.map mo) (.int .u32 t) false).run Try.prog (w.drewN n) = .ok (.bool false) (w.drewN n)) (ht : t = (l + 1) % 4294967296)
    (hap : ApIs w b mo ap s N) (hf : R32 f) (hs : (t - f) % 4294967296 + s < 4294967290) :
    Calls Try.prog 32 #[.pointer (some ⟨b, 0, none⟩), .int .u32 t] w fun e w' => e = .returned (.bool false) ∧ ∃ s', Loop w w' b f t mo ap s N s' := by
  obtain ⟨c0, c1, c2, c3, z0⟩ := log_cells hb
  have HB : Hid (w.heap[b]? = some (logCells true f l mo)) := hb
  have HT : Hid (t = (l + 1) % 4294967296) := ht
  have hne : (t != (l + 1) % 4294967296) = false := by simp [ht]
  clear hb ht
  go_enter Try.func32, Try.ntmps32
  go_wp2
  go_quiet (fail)
  go_wp2
  go_loopg [65] s (fun k _ wr => Loop w wr b f t mo ap s N k)
  case atStart => exact loop_start HB.out (HT.out ▸ R32_succ l) hap _
  case round =>
    obtain ⟨l', ap', hb', hl', hap', hsz, heq, hbel⟩ := hrel
    clear c0 c1 c2 c3 z0 hlk
    obtain ⟨c0, c1, c2, c3, z0⟩ := log_cells hb'
    have HB' : Hid (wr.heap[b]? = some (logCells true f l' mo)) := hb'
    have HE : Hid (∀ x, R32 x → logHas f l' ap' x = logHas f t ap x) := heq
    clear hb' heq
    have hlk' : ∀ n, (Instr.lookup 26 (.map mo) (.int .u32 ((l' + 1) % 4294967296)) false).run Try.prog (wr.drewN n) = .ok (.bool (ap' ((l' + 1) % 4294967296))) (wr.drewN n) :=
      fun n => ApIs.look (w := wr.drewN n) hap' (R32_succ l')
    cases hv : ap' ((l' + 1) % 4294967296)
    · rw [hv] at hlk'
      have HV : Hid (ap' ((l' + 1) % 4294967296) = false) := hv
      clear hv
      go_wp2
      go_quiet (fail)
      go_wp2
      go_ret
      exact ⟨rfl, gk, l', ap', HB'.out, hl', hap', hsz, HE.out, below_drewN hbel _⟩
    · rw [hv] at hlk'
      have HV : Hid (ap' ((l' + 1) % 4294967296) = true) := hv
      clear hv
      obtain ⟨m, _, rfl, hm, _, hk0, _⟩ := hap'.del (R32_succ l') HV.out
      go_wp2
      go_quiet (fail)
      go_wp2
      go_region_held3 (fun w' => w'.cell? ⟨b, 2, none⟩ = some (.int .u32 l') ∧ w'.cell? ⟨b, 3, none⟩ = some (.map (some m))) (go_keep)
        ((refine step_del_ap rfl rfl _ _ rfl b m ap' gk N (by exact hap') _ _ (wrapU32 _) (R32_succ l') HV.out rfl rfl ?_; intro w1 hap1 hturn1; have tc2 : w1.cell? ⟨b, 2, none⟩ = some (.int .u32 l') := ((turned_keep hturn1 hm).1 2).trans c2; have tc3 : w1.cell? ⟨b, 3, none⟩ = some (.map (some m)) := ((turned_keep hturn1 hm).1 3).trans c3; have tz2 : w1.frozen? ⟨b, 2, none⟩ = false := ((turned_keep hturn1 hm).2 2).trans (z0 2)))
      go_wp2
      have hstep := loop_step HB'.out hl' hf hm hs hsz hk0 HE.out hbel HV.out hap1 (n := nq + 1) hturn1
      go_roundg (gk - 1)
      case measure => omega
      case rel => exact hstep
theorem putAp_logHas (f l : Int) (ap : Int → Bool) (t x : Int) : logHas f l (putAp ap t) x = true ↔ x = t ∨ logHas f l ap x = true := by
  unfold logHas putAp
  by_cases h : x = t <;> simp [h]

/-- THE CONTRACT: whatever the log has seen, it answers whether t is among it, and has then seen t too. -/
theorem seen_any (b N : Nat) (S : List Int) (t : Int) (ht : R32 t) (w : World) (h : Log w b N S) (hN : N ≤ 1000000) :
    Calls Try.prog 32 #[.pointer (some ⟨b, 0, none⟩), .int .u32 t] w fun e w' => e = .returned (.bool (decide (t ∈ S))) ∧ Log w' b (N + 1) (t :: S) ∧ Below b w w' := by
  rcases h with ⟨hb, rfl⟩ | ⟨f, l, mo, ap, s, hb, hf, hl, hap, hsz, hmem⟩
  · refine (seen_first b t 0 0 none w hb).mono fun e w' ⟨he, h1, h2⟩ => ⟨by simpa using he, .inr ⟨t, t, none, fun _ => false, 0, h1, ht, ht, .inl ⟨rfl, fun _ => rfl⟩, by simp; omega, fun x hx => ?_⟩, h2⟩
    unfold logHas
    rw [inRun_one ht hx]; simp
  · have hblt : b < w.heap.size := (Array.getElem?_eq_some_iff.1 hb).1
    have hmt := hmem t ht
    by_cases hin : (t - f) % 4294967296 ≤ (l - f) % 4294967296
    · have hS : t ∈ S := hmt.2 (by simp [logHas, inRun, hin])
      refine (seen_in b t f l mo w hb hin).mono fun e w' ⟨he, n, hw⟩ => ?_
      subst hw
      refine ⟨by simpa [hS] using he, .inr ⟨f, l, mo, ap, s, hb, hf, hl, hap.mono (Nat.le_refl _) (Nat.le_succ N), by omega, fun x hx => ?_⟩, below_drewN (Below.refl _ _) n⟩
      rw [← hmem x hx]
      constructor
      · intro h; rcases List.mem_cons.1 h with rfl | h
        · exact hS
        · exact h
      · exact fun h => List.mem_cons_of_mem _ h
    · have hin' : (l - f) % 4294967296 < (t - f) % 4294967296 := by omega
      have hlk : ∀ n, (Instr.lookup 26 (.map mo) (.int .u32 t) false).run Try.prog (w.drewN n) = .ok (.bool (ap t)) (w.drewN n) := fun n => ApIs.look (w := w.drewN n) hap ht
      cases hv : ap t
      · rw [hv] at hlk
        have hS : t ∉ S := fun h => by
          have := hmt.1 h
          simp [logHas, inRun, hin, hv] at this
        by_cases hne : t = (l + 1) % 4294967296
        · have hr := run_succ hf hl (by unfold R32 at hf hl; omega)
          rw [← hne] at hr
          refine (seen_next b t f l mo N s ap w hb hin' hlk hne hap hf (by omega)).mono fun e w' ⟨he, s', l', ap', h1, h2, h3, h4, h5, h6⟩ => ?_
          refine ⟨by simpa [hS] using he, .inr ⟨f, l', mo, ap', s', h1, hf, h2, h3.mono (Nat.le_refl _) (Nat.le_succ N), by omega, fun x hx => ?_⟩, h6⟩
          rw [h5 x hx]
          unfold logHas
          rw [hne, inRun_succ hf hl hx (by omega), ← hne, List.mem_cons, hmem x hx]
          unfold logHas
          simp
          constructor
          · rintro (h | h | h) <;> simp [h]
          · rintro ((h | h) | h) <;> simp [h]
        · cases mo with
          | some m =>
            refine (seen_far b t f l m N s ap w hb hin' hlk hne (fun n => hap) (by unfold maxLen; omega) ht).mono fun e w' ⟨he, n, h1, h2⟩ => ?_
            have hm : b < m := by
              rcases hap with ⟨h, _⟩ | ⟨m', D, h, hm, _⟩
              · cases h
              · cases h; exact hm
            have hg := h2.grown
            refine ⟨by simpa [hS] using he, .inr ⟨f, l, some m, _, s + 1, (hg.block b hblt (by intro e; cases e; omega)).trans hb, hf, hl, h1, by omega, fun x hx => ?_⟩, (below_drewN (Below.refl _ _) n).grown hg (by simp; omega) (by intro k e; cases e; omega)⟩
            rw [putAp_logHas, List.mem_cons, hmem x hx]
          | none =>
            have hap0 : ∀ x, ap x = false := by
              rcases hap with ⟨_, h⟩ | ⟨m', D, h, _⟩
              · exact h
              · cases h
            have hap2 : ∀ n, ApIs (((w.drewN n).alloc (.map #[] 0)).setCell ⟨b, 3, none⟩ (.map (some w.heap.size))) b (some w.heap.size) (fun _ => false) s N := fun n =>
              ((ApIs.made (w.drewN n) b N hblt).mono (Nat.zero_le s) (Nat.le_refl N)).kept fun m hm _ => Below.heap_setCell _ _ _ _ (by simp; omega)
            refine (seen_new b t f l N s w hb hin' hlk hne hap2 (by unfold maxLen; omega) ht).mono fun e w' ⟨he, n, h1, h2⟩ => ?_
            have hg := h2.grown
            have hbb : (((w.drewN n).alloc (.map #[] 0)).setCell ⟨b, 3, none⟩ (.map (some w.heap.size))).heap[b]? = some (logCells true f l (some w.heap.size)) := by
              have := (Below.heap_alloc (w.drewN n) (.map #[] 0) b hblt).trans hb
              unfold logCells at this
              exact heap_setCell_same this _
            have hbel : Below b w (((w.drewN n).alloc (.map #[] 0)).setCell ⟨b, 3, none⟩ (.map (some w.heap.size))) :=
              ((below_drewN (Below.refl _ _) n).alloc (by simp; omega) _).setCell (by exact Nat.le_refl b) _
            refine ⟨by simpa [hS] using he, .inr ⟨f, l, some w.heap.size, _, s + 1, (hg.block b (by simp; omega) (by intro e; cases e; omega)).trans hbb, hf, hl, h1, by omega, fun x hx => ?_⟩, hbel.grown hg (by simp; omega) (by intro k e; cases e; omega)⟩
            rw [putAp_logHas, List.mem_cons, hmem x hx]
            unfold logHas
            simp [hap0]
      · rw [hv] at hlk
        have hS : t ∈ S := hmt.2 (by simp [logHas, hv])
        refine (seen_apart b t f l mo w hb hin' hlk).mono fun e w' ⟨he, n, hw⟩ => ?_
        subst hw
        refine ⟨by simpa [hS] using he, .inr ⟨f, l, mo, ap, s, hb, hf, hl, hap.mono (Nat.le_refl _) (Nat.le_succ N), by omega, fun x hx => ?_⟩, below_drewN (Below.refl _ _) n⟩
        rw [← hmem x hx]
        constructor
        · intro h; rcases List.mem_cons.1 h with rfl | h
          · exact hS
          · exact h
        · exact fun h => List.mem_cons_of_mem _ h

theorem zzseen_any (b N : Nat) (S : List Int) (t : Int) (ht : R32 t) (w : World) (h : Log w b N S) (hN : N ≤ 1000000) :
    Calls Try.prog 13 #[.pointer (some ⟨b, 0, none⟩), .int .u32 t] w fun e w' => e = .returned (.bool (decide (t ∈ S))) ∧ Log w' b (N + 1) (t :: S) ∧ Below b w w' := by
  go_enter Try.func13, Try.ntmps13
  go_wp2_with fail
  refine (seen_any b N S t ht w h hN).mono ?_
  rintro e w' ⟨rfl, h1, h2⟩
  go_wp2
  go_ret
  exact ⟨rfl, h1, h2⟩
end Go.Proofs.Qxb6002696a
