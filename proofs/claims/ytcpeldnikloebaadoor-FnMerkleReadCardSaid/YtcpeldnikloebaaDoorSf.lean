/- impl.safe: it runs a function and answers true where that returns. -/
import Derived.Test.YtcpeldnikloebaaDoorTrS
import Derived.Defers
import Derived.Recover
set_option linter.unusedVariables false
set_option linter.unusedSimpArgs false
namespace Go.Proofs.YtcpeldnikloebaaDoor
open Go.RowKit Go.Mm Go.Sha

theorem safe1_idle (p : Addr) (x : Value) (w : World) (hc : w.cell? p = some x) (hz : w.frozen? p = false) :
    CallsD Tryd.prog 27 #[.pointer (some p)] .returning w fun e u' w' => e = .returned (.tuple #[]) ∧ u' = .returning ∧ w' = w.setCell p (.bool true) := by
  have hq : ∀ w : World, (binOp .eql 20 .nilIface .nilIface).run Tryd.prog w = .ok (.bool true) w := fun _ => by kernel_rfl
  refine callsD_of_wpS Tryd.func27 rfl fun c₀ cs hu => ?_
  apply wpS_region
  simp [wpOpsS, go_sem, recoverD, hu, Tryd.ntmps27, Exit.thenS, hc, hz, bodyPostS, results, Tryd.results27]
  cases c₀
  simp_all

theorem make_fn : ∀ (fn : Fn) (first cap : Array Value) (w : World), (Instr.makeFunc fn first cap).run Tryd.prog w = .ok (.func fn first cap) w := fun _ _ _ _ => rfl

set_option maxHeartbeats 1000000 in
theorem safe_verify (c0 c1 c2 c3 c4 : Nat) (w : World) (K : World → Prop) (h : Calls Tryd.prog 18 #[pt c0, pt c1, pt c2, pt c3, pt c4] (w.alloc (.cells #[.bool false] 4)) fun e w' => e = .returned (.tuple #[]) ∧ K w' ∧ Blk w' w.heap.size 4 #[.bool false]) :
    Calls Tryd.prog 10 #[.func (.func 18) #[] #[pt c0, pt c1, pt c2, pt c3, pt c4]] w fun e w' => e = .returned (.bool true) ∧ ∃ w1, K w1 ∧ Chg [w.heap.size] w1 w' := by
  have hmf := make_fn
  go_enter_defers Tryd.func10, Tryd.ntmps10
  go_wp2_with (first | (go_at_call 18; refine h.mono ?_; rintro e w1 ⟨rfl, hk, hb⟩; have q0 : w1.cell? ⟨w.heap.size, 0, none⟩ = some (.bool false) := hb.cell 0; have z0 : w1.frozen? ⟨w.heap.size, 0, none⟩ = false := hb.frozen 0))
  refine leaves_cons (f := 27) (args := #[.pointer (some ⟨w.heap.size, 0, none⟩)]) (by simp) (by simp [go_sem]) ?_
  refine (safe1_idle ⟨w.heap.size, 0, none⟩ (.bool true) _ ?_ ?_).mono ?_
  · exact (hb.set_ 0 (.bool true)).cell 0
  · exact (hb.set_ 0 (.bool true)).frozen 0
  rintro e u' w'' ⟨rfl, rfl, rfl⟩
  have q2 := ((hb.set_ 0 (.bool true)).set_ 0 (.bool true)).cell 0
  have hch : Chg [w.heap.size] w1 ((w1.setCell ⟨w.heap.size, 0, none⟩ (.bool true)).setCell ⟨w.heap.size, 0, none⟩ (.bool true)) := ((Chg.refl [w.heap.size] w1).setCell (p := ⟨w.heap.size, 0, none⟩) (.inl (by simp)) _).setCell (p := ⟨w.heap.size, 0, none⟩) (.inl (by simp)) _
  simp [Leaves, settle, results, Tryd.results10, go_sem]
  exact ⟨_, by rw [q2]; rfl, rfl, w1, hk, hch⟩

set_option maxHeartbeats 1000000 in
theorem safe_read (c0 c1 c2 c3 c4 c5 c6 c7 : Nat) (w : World) (K : World → Prop) (h : Calls Tryd.prog 11 #[pt c0, pt c1, pt c2, pt c3, pt c4, pt c5, pt c6, pt c7] (w.alloc (.cells #[.bool false] 4)) fun e w' => e = .returned (.tuple #[]) ∧ K w' ∧ Blk w' w.heap.size 4 #[.bool false]) :
    Calls Tryd.prog 10 #[.func (.func 11) #[] #[pt c0, pt c1, pt c2, pt c3, pt c4, pt c5, pt c6, pt c7]] w fun e w' => e = .returned (.bool true) ∧ ∃ w1, K w1 ∧ Chg [w.heap.size] w1 w' := by
  have hmf := make_fn
  go_enter_defers Tryd.func10, Tryd.ntmps10
  go_wp2_with (first | (go_at_call 11; refine h.mono ?_; rintro e w1 ⟨rfl, hk, hb⟩; have q0 : w1.cell? ⟨w.heap.size, 0, none⟩ = some (.bool false) := hb.cell 0; have z0 : w1.frozen? ⟨w.heap.size, 0, none⟩ = false := hb.frozen 0))
  refine leaves_cons (f := 27) (args := #[.pointer (some ⟨w.heap.size, 0, none⟩)]) (by simp) (by simp [go_sem]) ?_
  refine (safe1_idle ⟨w.heap.size, 0, none⟩ (.bool true) _ ?_ ?_).mono ?_
  · exact (hb.set_ 0 (.bool true)).cell 0
  · exact (hb.set_ 0 (.bool true)).frozen 0
  rintro e u' w'' ⟨rfl, rfl, rfl⟩
  have q2 := ((hb.set_ 0 (.bool true)).set_ 0 (.bool true)).cell 0
  have hch : Chg [w.heap.size] w1 ((w1.setCell ⟨w.heap.size, 0, none⟩ (.bool true)).setCell ⟨w.heap.size, 0, none⟩ (.bool true)) := ((Chg.refl [w.heap.size] w1).setCell (p := ⟨w.heap.size, 0, none⟩) (.inl (by simp)) _).setCell (p := ⟨w.heap.size, 0, none⟩) (.inl (by simp)) _
  simp [Leaves, settle, results, Tryd.results10, go_sem]
  exact ⟨_, by rw [q2]; rfl, rfl, w1, hk, hch⟩

set_option maxHeartbeats 1000000 in
theorem safe_proof (c0 c1 c2 c3 c4 c5 : Nat) (w : World) (K : World → Prop) (h : Calls Tryd.prog 20 #[pt c0, pt c1, pt c2, pt c3, pt c4, pt c5] (w.alloc (.cells #[.bool false] 4)) fun e w' => e = .returned (.tuple #[]) ∧ K w' ∧ Blk w' w.heap.size 4 #[.bool false]) :
    Calls Tryd.prog 10 #[.func (.func 20) #[] #[pt c0, pt c1, pt c2, pt c3, pt c4, pt c5]] w fun e w' => e = .returned (.bool true) ∧ ∃ w1, K w1 ∧ Chg [w.heap.size] w1 w' := by
  have hmf := make_fn
  go_enter_defers Tryd.func10, Tryd.ntmps10
  go_wp2_with (first | (go_at_call 20; refine h.mono ?_; rintro e w1 ⟨rfl, hk, hb⟩; have q0 : w1.cell? ⟨w.heap.size, 0, none⟩ = some (.bool false) := hb.cell 0; have z0 : w1.frozen? ⟨w.heap.size, 0, none⟩ = false := hb.frozen 0))
  refine leaves_cons (f := 27) (args := #[.pointer (some ⟨w.heap.size, 0, none⟩)]) (by simp) (by simp [go_sem]) ?_
  refine (safe1_idle ⟨w.heap.size, 0, none⟩ (.bool true) _ ?_ ?_).mono ?_
  · exact (hb.set_ 0 (.bool true)).cell 0
  · exact (hb.set_ 0 (.bool true)).frozen 0
  rintro e u' w'' ⟨rfl, rfl, rfl⟩
  have q2 := ((hb.set_ 0 (.bool true)).set_ 0 (.bool true)).cell 0
  have hch : Chg [w.heap.size] w1 ((w1.setCell ⟨w.heap.size, 0, none⟩ (.bool true)).setCell ⟨w.heap.size, 0, none⟩ (.bool true)) := ((Chg.refl [w.heap.size] w1).setCell (p := ⟨w.heap.size, 0, none⟩) (.inl (by simp)) _).setCell (p := ⟨w.heap.size, 0, none⟩) (.inl (by simp)) _
  simp [Leaves, settle, results, Tryd.results10, go_sem]
  exact ⟨_, by rw [q2]; rfl, rfl, w1, hk, hch⟩

set_option maxHeartbeats 1000000 in
theorem safe_root (c0 c1 : Nat) (w : World) (K : World → Prop) (h : Calls Tryd.prog 25 #[pt c0, pt c1] (w.alloc (.cells #[.bool false] 4)) fun e w' => e = .returned (.tuple #[]) ∧ K w' ∧ Blk w' w.heap.size 4 #[.bool false]) :
    Calls Tryd.prog 10 #[.func (.func 25) #[] #[pt c0, pt c1]] w fun e w' => e = .returned (.bool true) ∧ ∃ w1, K w1 ∧ Chg [w.heap.size] w1 w' := by
  have hmf := make_fn
  go_enter_defers Tryd.func10, Tryd.ntmps10
  go_wp2_with (first | (go_at_call 25; refine h.mono ?_; rintro e w1 ⟨rfl, hk, hb⟩; have q0 : w1.cell? ⟨w.heap.size, 0, none⟩ = some (.bool false) := hb.cell 0; have z0 : w1.frozen? ⟨w.heap.size, 0, none⟩ = false := hb.frozen 0))
  refine leaves_cons (f := 27) (args := #[.pointer (some ⟨w.heap.size, 0, none⟩)]) (by simp) (by simp [go_sem]) ?_
  refine (safe1_idle ⟨w.heap.size, 0, none⟩ (.bool true) _ ?_ ?_).mono ?_
  · exact (hb.set_ 0 (.bool true)).cell 0
  · exact (hb.set_ 0 (.bool true)).frozen 0
  rintro e u' w'' ⟨rfl, rfl, rfl⟩
  have q2 := ((hb.set_ 0 (.bool true)).set_ 0 (.bool true)).cell 0
  have hch : Chg [w.heap.size] w1 ((w1.setCell ⟨w.heap.size, 0, none⟩ (.bool true)).setCell ⟨w.heap.size, 0, none⟩ (.bool true)) := ((Chg.refl [w.heap.size] w1).setCell (p := ⟨w.heap.size, 0, none⟩) (.inl (by simp)) _).setCell (p := ⟨w.heap.size, 0, none⟩) (.inl (by simp)) _
  simp [Leaves, settle, results, Tryd.results10, go_sem]
  exact ⟨_, by rw [q2]; rfl, rfl, w1, hk, hch⟩
end Go.Proofs.YtcpeldnikloebaaDoor
