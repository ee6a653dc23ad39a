/- impl.MerkleVerify walked. -/
import Derived.Test.YtcpeldnikloebaaDoorVf
set_option linter.unusedVariables false
set_option linter.unusedSimpArgs false
namespace Go.Proofs.YtcpeldnikloebaaDoor
open Go.RowKit Go.Mm Go.Sha Merk

theorem vsafe (B idx N g o cap L : Nat) (rv : Value) (root : List Int) (ls : List (List Int)) (vs : List Value) (w : World) (hv : Vin w rv root g o L cap vs ls idx N) (hB : w.heap.size = B + 5)
    (h0 : Blk w B 22 #[rv]) (h1 : Blk w (B + 1) 24 #[.slice (some ⟨g, o, none⟩) L cap]) (h2 : Blk w (B + 2) 25 #[.int .u64 idx]) (h3 : Blk w (B + 3) 25 #[.int .u64 N]) (h4 : Blk w (B + 4) 4 #[.bool false]) :
    Calls Tryd.prog 10 #[.func (.func 18) #[] #[pt B, pt (B + 1), pt (B + 2), pt (B + 3), pt (B + 4)]] w fun e w' => e = .returned (.bool true) ∧ Blk w' (B + 4) 4 #[.bool true] ∧ Chg [B + 4] w w' := by
  have ha : Chg [] w (w.alloc (.cells #[.bool false] 4)) := (Chg.refl [] w).alloc _
  refine (safe_verify B (B + 1) (B + 2) (B + 3) (B + 4) w (fun w' => Blk w' (B + 4) 4 #[.bool true] ∧ Chg [B + 4] w w')
    ((mverify1_any B (B + 1) (B + 2) (B + 3) (B + 4) idx N g o cap L rv root ls vs _ (hv.chg ha) (h0.alloc _) (h1.alloc _) (h2.alloc _) (h3.alloc _) (h4.alloc _)).mono ?_)).mono ?_
  · rintro e w' ⟨rfl, hb, hc⟩
    exact ⟨rfl, ⟨hb, (ha.mono (by simp)).trans hc⟩, (Blk.new w _ _).chg hc (by simp; omega)⟩
  · rintro e w' ⟨rfl, w1, ⟨hb, hc⟩, hc1⟩
    exact ⟨rfl, hb.chg hc1 (by simp; omega), hc.step hc1 (by simp)⟩

theorem blk_at {w : World} {g : Nat} (t : TypeId) (cs : Array Value) (hg : g = w.heap.size) : Blk (w.alloc (.cells cs t)) g t cs := by subst hg; exact Blk.new w t cs

set_option maxHeartbeats 2000000 in
theorem mverify_any (idx N g o cap L : Nat) (rv : Value) (root : List Int) (ls : List (List Int)) (vs : List Value) (w : World) (hv : Vin w rv root g o L cap vs ls idx N) :
    Calls Tryd.prog 7 #[rv, .slice (some ⟨g, o, none⟩) L cap, .int .u64 idx, .int .u64 N] w fun e w' => e = .returned (.bool true) ∧ Chg [] w w' := by
  have hmf := make_fn
  obtain ⟨Ar, cr, rfl, _⟩ := hv.hroot
  have HS : Hid (∀ w5, Chg [] w w5 → w5.heap.size = w.heap.size + 5 → Blk w5 w.heap.size 22 #[.slice Ar root.length cr] → Blk w5 (w.heap.size + 1) 24 #[.slice (some ⟨g, o, none⟩) L cap] → Blk w5 (w.heap.size + 2) 25 #[.int .u64 idx] → Blk w5 (w.heap.size + 3) 25 #[.int .u64 N] →
      Blk w5 (w.heap.size + 4) 4 #[.bool false] → Calls Tryd.prog 10 #[.func (.func 18) #[] #[pt w.heap.size, pt (w.heap.size + 1), pt (w.heap.size + 2), pt (w.heap.size + 3), pt (w.heap.size + 4)]] w5 fun e w' => e = .returned (.bool true) ∧ Blk w' (w.heap.size + 4) 4 #[.bool true] ∧ Chg [w.heap.size + 4] w5 w') :=
    fun w5 hc hz h0 h1 h2 h3 h4 => vsafe w.heap.size idx N g o cap L _ root ls vs w5 (hv.chg hc) hz h0 h1 h2 h3 h4
  clear hv
  go_enter Tryd.func7, Tryd.ntmps7
  go_wp2_with (first
    | (go_at_call 10; refine (HS.out _ (((((((Chg.refl [] w).alloc _).alloc _).alloc _).alloc _).alloc _)) (by simp) ((((blk_at _ _ rfl).alloc _).alloc _).alloc _ |>.alloc _) (((blk_at _ _ (by simp)).alloc _).alloc _ |>.alloc _) ((blk_at _ _ (by simp)).alloc _ |>.alloc _) ((blk_at _ _ (by simp)).alloc _) (blk_at _ _ (by simp))).mono ?_
       rintro e w6 ⟨rfl, hb6, hc6⟩; have q8 : w6.cell? ⟨w.heap.size + 1 + 1 + 1 + 1, 0, none⟩ = some (.bool true) := hb6.cell 0; have z8 : w6.frozen? ⟨w.heap.size + 1 + 1 + 1 + 1, 0, none⟩ = false := hb6.frozen 0))
  have q9 : (w6.setCell ⟨w.heap.size + 1 + 1 + 1 + 1, 0, none⟩ (.bool true)).cell? ⟨w.heap.size + 1 + 1 + 1 + 1, 0, none⟩ = some (.bool true) := (hb6.set_ 0 (.bool true)).cell 0
  refine bodyPost_ret (v := .bool true) ?_ rfl ?_
  · simp [results, Tryd.results7, go_sem, q9]
  refine ⟨rfl, ?_⟩
  have h1 : Chg [w.heap.size + 4] w w6 := ((((((Chg.refl [] w).alloc _).alloc _).alloc _).alloc _).alloc _).mono (by simp) |>.trans hc6
  exact (h1.setCell (p := ⟨w.heap.size + 1 + 1 + 1 + 1, 0, none⟩) (.inl (by simp)) _).new (by omega)
end Go.Proofs.YtcpeldnikloebaaDoor
