/- impl.MerkleProof walked. -/
import Derived.Test.YtcpeldnikloebaaDoorRp
set_option linter.unusedVariables false
set_option linter.unusedSimpArgs false
namespace Go.Proofs.YtcpeldnikloebaaDoor
open Go.RowKit Go.Mm Go.Sha Merk

/-- what MerkleProof hands back -/
structure Pown (w : World) (B idx : Nat) (ls : List (List Int)) (rv pv : Value) (vs : List Value) : Prop where
  o1 : Own w (B + 7) 5 1 rv 32 (vb (mroot sha ls))
  o2 : Own w (B + 7) 22 1 pv (ls.getD idx [] :: mpath sha ls idx).length vs
  bs : Bss w [B + 2, B + 3, B + 4, B + 5, B + 6] vs (ls.getD idx [] :: mpath sha ls idx)
theorem Pown.chg {w w' : World} {B idx : Nat} {ls : List (List Int)} {rv pv : Value} {vs : List Value} {T : List Nat} (h : Pown w B idx ls rv pv vs) (hc : Chg T w w') (hT : ∀ k ∈ T, k ∈ [B + 2, B + 3, B + 4, B + 5, B + 6]) : Pown w' B idx ls rv pv vs := by
  have hn : ∀ g, B + 7 ≤ g → g ∉ T := fun g hg hm => by
    have := hT g hm
    simp only [List.mem_cons, List.not_mem_nil, or_false] at this; omega
  exact ⟨h.o1.chg hc (fun g hg => hn g (h.o1.lt g hg).1), h.o2.chg hc (fun g hg => hn g (h.o2.lt g hg).1), h.bs.chg hc (fun k hk => .inl (hT k hk))⟩
structure Pout (w : World) (B idx L : Nat) (ls : List (List Int)) (rv pv : Value) (vs : List Value) : Prop where
  b2 : Blk w (B + 2) 22 #[rv]
  b3 : Blk w (B + 3) 24 #[pv]
  b4 : Blk w (B + 4) 25 #[.int .u64 idx]
  b5 : Blk w (B + 5) 25 #[.int .u64 L]
  own : Pown w B idx ls rv pv vs

set_option maxHeartbeats 4000000 in
theorem mproof_any (idx g o L cap : Nat) (vs : List Value) (ls : List (List Int)) (w : World) (hl : Lin w g o L vs ls) (hL1 : idx < L) (hL2 : L ≤ 200) (hLc : L ≤ cap) :
    Calls Tryd.prog 8 #[.slice (some ⟨g, o, none⟩) L cap, .int .u64 idx] w fun e w' => ∃ rv pv vs', e = .returned (.tuple #[rv, pv, .int .u64 idx, .int .u64 L]) ∧ Pown w' w.heap.size idx ls rv pv vs' ∧ Chg [] w w' := by
  have hmf := make_fn
  have HS : Hid (∀ w5, Chg [] w w5 → w5.heap.size = w.heap.size + 6 → Blk w5 w.heap.size 24 #[.slice (some ⟨g, o, none⟩) L cap] → Blk w5 (w.heap.size + 1) 25 #[.int .u64 idx] → Blk w5 (w.heap.size + 2) 22 #[.slice none 0 0] → Blk w5 (w.heap.size + 3) 24 #[.slice none 0 0] →
      Blk w5 (w.heap.size + 4) 25 #[.int .u64 0] → Blk w5 (w.heap.size + 5) 25 #[.int .u64 0] →
      Calls Tryd.prog 10 #[.func (.func 20) #[] #[pt (w.heap.size + 1), pt w.heap.size, pt (w.heap.size + 2), pt (w.heap.size + 3), pt (w.heap.size + 4), pt (w.heap.size + 5)]] w5 fun e w' => e = .returned (.bool true) ∧
        (∃ rv pv vs', Pout w' w.heap.size idx L ls rv pv vs') ∧ Chg [w.heap.size + 2, w.heap.size + 3, w.heap.size + 4, w.heap.size + 5] w5 w') := by
    intro w5 hc hz h0 h1 h2 h3 h4 h5
    have ha : Chg [] w5 (w5.alloc (.cells #[.bool false] 4)) := (Chg.refl [] w5).alloc _
    have hs1 : (w5.alloc (.cells #[.bool false] 4)).heap.size = w.heap.size + 7 := by simp [hz]
    refine (safe_proof _ _ _ _ _ _ w5 (fun w' => (∃ rv pv vs', Pout w' w.heap.size idx L ls rv pv vs') ∧ Chg [w.heap.size + 2, w.heap.size + 3, w.heap.size + 4, w.heap.size + 5] w5 w')
      ((mproof1_any [w.heap.size + 6] w.heap.size idx g o L cap vs ls _ ((hl.chg hc).chg ha) hL1 hL2 hLc (by simp [hz]) (h0.alloc _) (h1.alloc _) (h2.alloc _) (h3.alloc _) (h4.alloc _) (h5.alloc _)).mono ?_)).mono ?_
    · rintro e w' ⟨rfl, rv, pv, vs', b2, b3, b4, b5, o1, o2, bs, hc1⟩
      rw [hs1] at o1 o2
      exact ⟨rfl, ⟨⟨rv, pv, vs', b2, b3, b4, b5, o1, o2, bs⟩, (ha.mono (by simp)).trans hc1⟩, (Blk.new w5 _ _).chg hc1 (by simp; omega)⟩
    · rintro e w' ⟨rfl, w1, ⟨⟨rv, pv, vs', h⟩, hc1⟩, hc2⟩
      rw [hz] at hc2
      exact ⟨rfl, ⟨rv, pv, vs', h.b2.chg hc2 (by simp), h.b3.chg hc2 (by simp), h.b4.chg hc2 (by simp), h.b5.chg hc2 (by simp), h.own.chg hc2 (by simp)⟩, hc1.step hc2 (by simp; omega)⟩
  clear hl
  go_enter Tryd.func8, Tryd.ntmps8
  go_wp2_with (first
    | (go_at_call 10; refine (HS.out _ ((((((((Chg.refl [] w).alloc _).alloc _).alloc _).alloc _).alloc _).alloc _)) (by simp) (((((blk_at _ _ rfl).alloc _).alloc _).alloc _).alloc _ |>.alloc _) ((((blk_at _ _ (by simp)).alloc _).alloc _).alloc _ |>.alloc _) (((blk_at _ _ (by simp)).alloc _).alloc _ |>.alloc _) ((blk_at _ _ (by simp)).alloc _ |>.alloc _) ((blk_at _ _ (by simp)).alloc _) (blk_at _ _ (by simp))).mono ?_
       rintro e w6 ⟨rfl, ⟨rv, pv, vs', hro⟩, hc6⟩))
  have c3 : w6.cell? ⟨w.heap.size + 1 + 1, 0, none⟩ = some rv := hro.b2.cell 0
  have c4 : w6.cell? ⟨w.heap.size + 1 + 1 + 1, 0, none⟩ = some pv := hro.b3.cell 0
  have c5 : w6.cell? ⟨w.heap.size + 1 + 1 + 1 + 1, 0, none⟩ = some (.int .u64 idx) := hro.b4.cell 0
  have c6 : w6.cell? ⟨w.heap.size + 1 + 1 + 1 + 1 + 1, 0, none⟩ = some (.int .u64 L) := hro.b5.cell 0
  have z3 : w6.frozen? ⟨w.heap.size + 1 + 1, 0, none⟩ = false := hro.b2.frozen 0
  have z4 : w6.frozen? ⟨w.heap.size + 1 + 1 + 1, 0, none⟩ = false := hro.b3.frozen 0
  have z5 : w6.frozen? ⟨w.heap.size + 1 + 1 + 1 + 1, 0, none⟩ = false := hro.b4.frozen 0
  have z6 : w6.frozen? ⟨w.heap.size + 1 + 1 + 1 + 1 + 1, 0, none⟩ = false := hro.b5.frozen 0
  have s3 : ∀ n, (w6.drewN n).setCell ⟨w.heap.size + 1 + 1, 0, none⟩ rv = w6.drewN n := fun n => set_same (hro.b2.drewN n) rfl
  have s4 : ∀ n, (w6.drewN n).setCell ⟨w.heap.size + 1 + 1 + 1, 0, none⟩ pv = w6.drewN n := fun n => set_same (hro.b3.drewN n) rfl
  have s5 : ∀ n, (w6.drewN n).setCell ⟨w.heap.size + 1 + 1 + 1 + 1, 0, none⟩ (.int .u64 idx) = w6.drewN n := fun n => set_same (hro.b4.drewN n) rfl
  have s6 : ∀ n, (w6.drewN n).setCell ⟨w.heap.size + 1 + 1 + 1 + 1 + 1, 0, none⟩ (.int .u64 L) = w6.drewN n := fun n => set_same (hro.b5.drewN n) rfl
  obtain ⟨A1, k1, rfl, _⟩ := hro.own.o1.form
  obtain ⟨A3, k3, rfl, _⟩ := hro.own.o2.form
  have HRO : Hid (Pout w6 w.heap.size idx L ls (.slice A1 32 k1) (.slice A3 (ls.getD idx [] :: mpath sha ls idx).length k3) vs') := hro
  clear hro
  generalize (ls.getD idx [] :: mpath sha ls idx).length = np at *
  go_quiet (fail)
  go_wp2_with fail
  refine bodyPost_ret (v := .tuple #[.slice A1 32 k1, .slice A3 np k3, .int .u64 idx, .int .u64 L]) ?_ rfl ?_
  · simp [results, Tryd.results8, go_sem, c3, c4, c5, c6]
  have h1 : Chg [w.heap.size + 2, w.heap.size + 3, w.heap.size + 4, w.heap.size + 5] w w6 := (((((((Chg.refl [] w).alloc _).alloc _).alloc _).alloc _).alloc _).alloc _).mono (by simp) |>.trans hc6
  exact ⟨_, _, vs', rfl, HRO.out.own.chg ((Chg.refl [] w6).drewN nq) (by simp), (h1.old (S := []) (by intro k hk hl; simp only [List.mem_cons, List.not_mem_nil, or_false] at hk; omega)).drewN nq⟩
end Go.Proofs.YtcpeldnikloebaaDoor
