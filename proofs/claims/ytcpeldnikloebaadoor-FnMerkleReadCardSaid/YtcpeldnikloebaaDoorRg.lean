/- impl.MerkleRead walked. -/
import Derived.Test.YtcpeldnikloebaaDoorRe1
import Derived.Test.YtcpeldnikloebaaDoorVg
set_option linter.unusedVariables false
set_option linter.unusedSimpArgs false
namespace Go.Proofs.YtcpeldnikloebaaDoor
open Go.RowKit Go.Mm Go.Sha Merk

/-- what MerkleRead hands back -/
structure Rown (w : World) (B m : Nat) (idx : Nat) (xs : List Int) (rv sv pv : Value) (vs : List Value) : Prop where
  o1 : Own w (B + 9) 5 1 rv 32 (vb (mroot sha (segs m xs)))
  o2 : Own w (B + 9) 5 1 sv 32 (vb (mroot sha (segs m xs)))
  o3 : Own w (B + 9) 22 1 pv ((segs m xs).getD idx [] :: mpath sha (segs m xs) idx).length vs
  bs : Bss w [B + 3, B + 4, B + 5, B + 6, B + 7, B + 8] vs ((segs m xs).getD idx [] :: mpath sha (segs m xs) idx)
theorem Rown.chg {w w' : World} {B m idx : Nat} {xs : List Int} {rv sv pv : Value} {vs : List Value} {T : List Nat} (h : Rown w B m idx xs rv sv pv vs) (hc : Chg T w w') (hT : ∀ k ∈ T, k ∈ [B + 3, B + 4, B + 5, B + 6, B + 7, B + 8]) : Rown w' B m idx xs rv sv pv vs := by
  have hn : ∀ g, B + 9 ≤ g → g ∉ T := fun g hg hm => by
    have := hT g hm
    simp only [List.mem_cons, List.not_mem_nil, or_false] at this; omega
  exact ⟨h.o1.chg hc (fun g hg => hn g (h.o1.lt g hg).1), h.o2.chg hc (fun g hg => hn g (h.o2.lt g hg).1), h.o3.chg hc (fun g hg => hn g (h.o3.lt g hg).1), h.bs.chg hc (fun k hk => .inl (hT k hk))⟩
structure Rout (w : World) (B m : Nat) (idx : Nat) (xs : List Int) (rv sv pv : Value) (vs : List Value) : Prop where
  b3 : Blk w (B + 3) 22 #[rv]
  b4 : Blk w (B + 4) 22 #[sv]
  b5 : Blk w (B + 5) 24 #[pv]
  b6 : Blk w (B + 6) 25 #[.int .u64 (segs m xs).length]
  b7 : Blk w (B + 7) 4 #[.bool true]
  own : Rown w B m idx xs rv sv pv vs

theorem rsafe (B E0 m n c idx : Nat) (a b : Addr) (A : Option Addr) (xs : List Int) (w : World) (hB : w.heap.size = B + 8)
    (h0 : Blk w B 22 #[.slice A n c]) (h1 : Blk w (B + 1) 3 #[.int .i64 m]) (h2 : Blk w (B + 2) 25 #[.int .u64 idx]) (h3 : Blk w (B + 3) 22 #[.slice none 0 0]) (h4 : Blk w (B + 4) 22 #[.slice none 0 0])
    (h5 : Blk w (B + 5) 24 #[.slice none 0 0]) (h6 : Blk w (B + 6) 25 #[.int .u64 0]) (h7 : Blk w (B + 7) 4 #[.bool false])
    (he : Er w E0 a b) (hx : Bs w [] (.slice A n c) xs) (hl : xs.length = n) (hn0 : 0 < n) (hn1 : n ≤ 200) (hnc : n ≤ c) (hm0 : 0 < m) (hm : m ≤ 50) (hi : idx < (segs m xs).length) :
    Calls Tryd.prog 10 #[.func (.func 11) #[] #[pt B, pt (B + 1), pt (B + 2), pt (B + 3), pt (B + 4), pt (B + 5), pt (B + 6), pt (B + 7)]] w fun e w' => e = .returned (.bool true) ∧
      (∃ rv sv pv vs, Rout w' B m idx xs rv sv pv vs) ∧ Chg [B + 3, B + 4, B + 5, B + 6, B + 7] w w' := by
  have ha : Chg [] w (w.alloc (.cells #[.bool false] 4)) := (Chg.refl [] w).alloc _
  have hs1 : (w.alloc (.cells #[.bool false] 4)).heap.size = B + 9 := by simp [hB]
  refine (safe_read B (B + 1) (B + 2) (B + 3) (B + 4) (B + 5) (B + 6) (B + 7) w (fun w' => (∃ rv sv pv vs, Rout w' B m idx xs rv sv pv vs) ∧ Chg [B + 3, B + 4, B + 5, B + 6, B + 7] w w')
    ((mread1_any [B + 8] B E0 m n c idx a b A xs _ (h0.alloc _) (h1.alloc _) (h2.alloc _) (h3.alloc _) (h4.alloc _) (h5.alloc _) (h6.alloc _) (h7.alloc _) (he.chg ha (by simp)) (hx.chg ha (by simp)) hl hn0 hn1 hnc hm0 hm hi (by simp [hB])).mono ?_)).mono ?_
  · rintro e w' ⟨rfl, rv, sv, pv, vs, b3, b4, b5, b6, b7, o1, o2, o3, bs, hc⟩
    rw [hs1] at o1 o2 o3
    exact ⟨rfl, ⟨⟨rv, sv, pv, vs, b3, b4, b5, b6, b7, o1, o2, o3, bs⟩, (ha.mono (by simp)).trans hc⟩, (Blk.new w _ _).chg hc (by simp; omega)⟩
  · rintro e w' ⟨rfl, w1, ⟨⟨rv, sv, pv, vs, h⟩, hc⟩, hc1⟩
    rw [hB] at hc1
    refine ⟨rfl, ⟨rv, sv, pv, vs, h.b3.chg hc1 (by simp), h.b4.chg hc1 (by simp), h.b5.chg hc1 (by simp), h.b6.chg hc1 (by simp), h.b7.chg hc1 (by simp), h.own.chg hc1 (by simp)⟩, hc.step hc1 (by simp; omega)⟩

/-- a cell that is set to what it holds -/
theorem set_same {w : World} {g o : Nat} {t : TypeId} {cs : Array Value} {v : Value} (h : Blk w g t cs) (hv : cs[o]? = some v) : w.setCell ⟨g, o, none⟩ v = w := by
  unfold Blk at h
  unfold World.setCell
  have hcs : cs.setIfInBounds o v = cs := by
    apply Array.ext
    · simp
    · intro i h1 h2
      rw [Array.getElem_setIfInBounds]
      split
      · rename_i e
        subst e
        rw [Array.getElem?_eq_getElem h2] at hv
        exact (Option.some.inj hv).symm
      · rfl
  have hh : ∀ f : Obj → Obj, f (.cells cs t (0, 0)) = .cells cs t (0, 0) → w.heap.modify g f = w.heap := by
    intro f hf
    apply Array.ext_getElem?
    intro i
    rw [Array.getElem?_modify]
    split
    · rename_i e
      subst e
      rw [h]
      simp [hf]
    · rfl
  rw [hh _ (by simp [hcs])]

set_option maxHeartbeats 4000000 in
theorem mread_any (E0 m n c idx : Nat) (a b : Addr) (A : Option Addr) (xs : List Int) (w : World) (he : Er w E0 a b) (hx : Bs w [] (.slice A n c) xs) (hl : xs.length = n) (hn0 : 0 < n) (hn1 : n ≤ 200) (hnc : n ≤ c) (hm0 : 0 < m) (hm : m ≤ 50) (hi : idx < (segs m xs).length) :
    Calls Tryd.prog 5 #[.slice A n c, .int .i64 m, .int .u64 idx] w fun e w' => ∃ rv sv pv vs, e = .returned (.tuple #[rv, sv, pv, .int .u64 (segs m xs).length, .bool true]) ∧ Rown w' w.heap.size m idx xs rv sv pv vs ∧ Chg [] w w' := by
  have hmf := make_fn
  have HS : Hid (∀ w5, Chg [] w w5 → w5.heap.size = w.heap.size + 8 → Blk w5 w.heap.size 22 #[.slice A n c] → Blk w5 (w.heap.size + 1) 3 #[.int .i64 m] → Blk w5 (w.heap.size + 2) 25 #[.int .u64 idx] → Blk w5 (w.heap.size + 3) 22 #[.slice none 0 0] → Blk w5 (w.heap.size + 4) 22 #[.slice none 0 0] →
      Blk w5 (w.heap.size + 5) 24 #[.slice none 0 0] → Blk w5 (w.heap.size + 6) 25 #[.int .u64 0] → Blk w5 (w.heap.size + 7) 4 #[.bool false] →
      Calls Tryd.prog 10 #[.func (.func 11) #[] #[pt w.heap.size, pt (w.heap.size + 1), pt (w.heap.size + 2), pt (w.heap.size + 3), pt (w.heap.size + 4), pt (w.heap.size + 5), pt (w.heap.size + 6), pt (w.heap.size + 7)]] w5 fun e w' => e = .returned (.bool true) ∧
      (∃ rv sv pv vs, Rout w' w.heap.size m idx xs rv sv pv vs) ∧ Chg [w.heap.size + 3, w.heap.size + 4, w.heap.size + 5, w.heap.size + 6, w.heap.size + 7] w5 w') :=
    fun w5 hc hz h0 h1 h2 h3 h4 h5 h6 h7 => rsafe w.heap.size E0 m n c idx a b A xs w5 hz h0 h1 h2 h3 h4 h5 h6 h7 (he.chg hc (by simp)) (hx.chg hc (by simp)) hl hn0 hn1 hnc hm0 hm hi
  have HX : Hid ((segs m xs).length < 1000000 ∧ Hid (0 = 0)) := ⟨by have := segs_le hm0 (xs := xs) (by omega); omega, rfl⟩
  clear he hx hl hi
  go_enter Tryd.func5, Tryd.ntmps5
  go_wp2_with (first
    | (go_at_call 10; refine (HS.out _ ((((((((((Chg.refl [] w).alloc _).alloc _).alloc _).alloc _).alloc _).alloc _).alloc _).alloc _)) (by simp) (((((((blk_at _ _ rfl).alloc _).alloc _).alloc _).alloc _).alloc _).alloc _ |>.alloc _) ((((((blk_at _ _ (by simp)).alloc _).alloc _).alloc _).alloc _).alloc _ |>.alloc _)
         (((((blk_at _ _ (by simp)).alloc _).alloc _).alloc _).alloc _ |>.alloc _) ((((blk_at _ _ (by simp)).alloc _).alloc _).alloc _ |>.alloc _) (((blk_at _ _ (by simp)).alloc _).alloc _ |>.alloc _) ((blk_at _ _ (by simp)).alloc _ |>.alloc _) ((blk_at _ _ (by simp)).alloc _) (blk_at _ _ (by simp))).mono ?_
       rintro e w6 ⟨rfl, ⟨rv, sv, pv, vs, hro⟩, hc6⟩))
  have c3 : w6.cell? ⟨w.heap.size + 1 + 1 + 1, 0, none⟩ = some rv := hro.b3.cell 0
  have c4 : w6.cell? ⟨w.heap.size + 1 + 1 + 1 + 1, 0, none⟩ = some sv := hro.b4.cell 0
  have c5 : w6.cell? ⟨w.heap.size + 1 + 1 + 1 + 1 + 1, 0, none⟩ = some pv := hro.b5.cell 0
  have c6 : w6.cell? ⟨w.heap.size + 1 + 1 + 1 + 1 + 1 + 1, 0, none⟩ = some (.int .u64 (segs m xs).length) := hro.b6.cell 0
  have c7 : w6.cell? ⟨w.heap.size + 1 + 1 + 1 + 1 + 1 + 1 + 1, 0, none⟩ = some (.bool true) := hro.b7.cell 0
  have z3 : w6.frozen? ⟨w.heap.size + 1 + 1 + 1, 0, none⟩ = false := hro.b3.frozen 0
  have z4 : w6.frozen? ⟨w.heap.size + 1 + 1 + 1 + 1, 0, none⟩ = false := hro.b4.frozen 0
  have z5 : w6.frozen? ⟨w.heap.size + 1 + 1 + 1 + 1 + 1, 0, none⟩ = false := hro.b5.frozen 0
  have z6 : w6.frozen? ⟨w.heap.size + 1 + 1 + 1 + 1 + 1 + 1, 0, none⟩ = false := hro.b6.frozen 0
  have z7 : w6.frozen? ⟨w.heap.size + 1 + 1 + 1 + 1 + 1 + 1 + 1, 0, none⟩ = false := hro.b7.frozen 0
  have s3 : ∀ n, (w6.drewN n).setCell ⟨w.heap.size + 1 + 1 + 1, 0, none⟩ rv = w6.drewN n := fun n => set_same (hro.b3.drewN n) rfl
  have s4 : ∀ n, (w6.drewN n).setCell ⟨w.heap.size + 1 + 1 + 1 + 1, 0, none⟩ sv = w6.drewN n := fun n => set_same (hro.b4.drewN n) rfl
  have s5 : ∀ n, (w6.drewN n).setCell ⟨w.heap.size + 1 + 1 + 1 + 1 + 1, 0, none⟩ pv = w6.drewN n := fun n => set_same (hro.b5.drewN n) rfl
  have s6 : ∀ n, (w6.drewN n).setCell ⟨w.heap.size + 1 + 1 + 1 + 1 + 1 + 1, 0, none⟩ (.int .u64 (segs m xs).length) = w6.drewN n := fun n => set_same (hro.b6.drewN n) rfl
  have s7 : ∀ n, (w6.drewN n).setCell ⟨w.heap.size + 1 + 1 + 1 + 1 + 1 + 1 + 1, 0, none⟩ (.bool true) = w6.drewN n := fun n => set_same (hro.b7.drewN n) rfl
  obtain ⟨A1, k1, rfl, _⟩ := hro.own.o1.form
  obtain ⟨A2, k2, rfl, _⟩ := hro.own.o2.form
  obtain ⟨A3, k3, rfl, _⟩ := hro.own.o3.form
  have HRO : Hid (Rout w6 w.heap.size m idx xs (.slice A1 32 k1) (.slice A2 32 k2) (.slice A3 ((segs m xs).getD idx [] :: mpath sha (segs m xs) idx).length k3) vs) := hro
  clear hro
  generalize ((segs m xs).getD idx [] :: mpath sha (segs m xs) idx).length = np at *
  go_quiet (fail)
  go_wp2_with fail
  refine bodyPost_ret (v := .tuple #[.slice A1 32 k1, .slice A2 32 k2, .slice A3 np k3, .int .u64 (segs m xs).length, .bool true]) ?_ rfl ?_
  · simp [results, Tryd.results5, go_sem, c3, c4, c5, c6, c7]
  have h1 : Chg [w.heap.size + 3, w.heap.size + 4, w.heap.size + 5, w.heap.size + 6, w.heap.size + 7] w w6 := (((((((((Chg.refl [] w).alloc _).alloc _).alloc _).alloc _).alloc _).alloc _).alloc _).alloc _).mono (by simp) |>.trans hc6
  exact ⟨_, _, _, vs, rfl, HRO.out.own.chg ((Chg.refl [] w6).drewN nq) (by simp), (h1.old (S := []) (by intro k hk hl; simp only [List.mem_cons, List.not_mem_nil, or_false] at hk; omega)).drewN nq⟩
end Go.Proofs.YtcpeldnikloebaaDoor
