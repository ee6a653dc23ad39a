/- laws.hashAlive answers true. -/
import Derived.Test.YtcpeldnikloebaaDoorRq
set_option linter.unusedVariables false
set_option linter.unusedSimpArgs false
namespace Go.Proofs.YtcpeldnikloebaaDoor
open Go.RowKit Go.Mm Go.Sha Merk

theorem path_two : mpath sha [[1], [2]] 1 = [mroot sha [[1]]] := by
  have h := mpath_right sha (a := [[1]]) (b := [[2]]) (j := 0) (i := 1) rfl (by simp) (by simp) (by simp)
  rw [mpath_one sha (l := [[2]]) (by simp)] at h
  exact h

theorem lin_two {w : World} {B : Nat} (h0 : Blk w B 5 #[.int .u8 1]) (h1 : Blk w (B + 1) 5 #[.int .u8 2]) (h2 : Blk w (B + 2) 22 #[.slice (some ⟨B, 0, none⟩) 1 1, .slice (some ⟨B + 1, 0, none⟩) 1 1]) :
    Lin w (B + 2) 0 2 [.slice (some ⟨B, 0, none⟩) 1 1, .slice (some ⟨B + 1, 0, none⟩) 1 1] [[1], [2]] := by
  have b0 : Bs w [] (.slice (some ⟨B, 0, none⟩) 1 1) [1] := ⟨_, _, rfl, Rd.of_blk (cap := 1) h0 rfl rfl (Nat.le_refl _), by intro x hx; simp at hx; subst hx; decide, by simp⟩
  have b1 : Bs w [] (.slice (some ⟨B + 1, 0, none⟩) 1 1) [2] := ⟨_, _, rfl, Rd.of_blk (cap := 1) h1 rfl rfl (Nat.le_refl _), by intro x hx; simp at hx; subst hx; decide, by simp⟩
  refine ⟨h2.lt, ?_, ?_, rfl, ?_⟩
  · intro j hj
    rcases j with _ | _ | j
    · exact h2.cell 0
    · exact h2.cell 1
    · omega
  · intro j hj
    rcases j with _ | _ | j
    · exact b0
    · exact b1
    · omega
  · intro j hj
    rcases j with _ | _ | j
    · simp
    · simp
    · omega

set_option maxHeartbeats 8000000 in
theorem alive_any (w : World) : Calls Tryd.prog 4 #[] w fun e w' => e = .returned (.bool true) ∧ Chg [] w w' := by
  go_enter Tryd.func4, Tryd.ntmps4
  go_wp2_with (first
    | (go_at_call 8; refine (mproof_any 1 (w.heap.size + 2) 0 2 2 _ _ _ (lin_two (((blk_at _ _ rfl).alloc _).alloc _) ((blk_at _ _ (by simp)).alloc _) (blk_at _ _ (by simp))) (by omega) (by omega) (Nat.le_refl _)).mono ?_; rintro e w4 ⟨rv, pv, vs4, rfl, ho4, hc4⟩))
  have hpp : ([[1], [2]] : List (List Int)).getD 1 [] :: mpath sha [[1], [2]] 1 = [[2], mroot sha [[1]]] := by rw [path_two]; rfl
  have hbs := ho4.bs
  have ho2 := ho4.o2
  rw [hpp] at hbs ho2
  obtain ⟨A1, k1, rfl, _⟩ := ho4.o1.form
  have hrb := mroot_bytes [[1], [2]] (by simp)
  have h1b := mroot_bytes [[1]] (by simp)
  have HRB : Hid (Bytes (mroot sha [[1], [2]]) ∧ (mroot sha [[1], [2]]).length = 32) := hrb
  have HO1 : Hid (Own w4 _ 5 1 (.slice A1 32 k1) 32 (vb (mroot sha [[1], [2]]))) := ho4.o1
  have hrun : vrun sha 1 2 1 1 (sha [2]) [mroot sha [[1]]] = some (mroot sha [[1], [2]]) := by
    have := verify_path sha (l := [[1], [2]]) (i := 1) (by simp) (by simp)
    rw [path_two] at this
    exact this
  obtain ⟨gp, op, cp, rfl, hlp, hbp, hgp, hcp⟩ := Own.cells1 ho2 (by simp)
  have hv4 : Vin w4 (.slice A1 32 k1) (mroot sha [[1], [2]]) gp op 2 cp vs4 [[2], mroot sha [[1]]] 1 2 :=
    ⟨Bs.of_own [] HO1.out hrb.1 (by simp), hrb.2, hgp, hcp, hbs.more (by simp), rfl, by omega, by omega, hlp, by
      intro j hj
      rcases j with _ | _ | j
      · simp
      · show (mroot sha [[1]]).length ≤ 1000; rw [h1b.2]; omega
      · omega, by omega, by omega, hrun⟩
  have HV4 : Hid (Vin w4 (.slice A1 32 k1) (mroot sha [[1], [2]]) gp op 2 cp vs4 [[2], mroot sha [[1]]] 1 2) := hv4
  have hlin : Lin w4 (w.heap.size + 2) 0 2 _ _ := (lin_two (w := ((w.alloc (.cells #[.int .u8 1] 5)).alloc (.cells #[.int .u8 2] 5)).alloc (.cells #[.slice (some ⟨w.heap.size, 0, none⟩) 1 1, .slice (some ⟨w.heap.size + 1, 0, none⟩) 1 1] 22)) (((blk_at _ _ rfl).alloc _).alloc _) ((blk_at _ _ (by simp)).alloc _) (blk_at _ _ (by simp))).chg hc4
  have hcm := mroot_any (w.heap.size + 2) 0 2 2 _ _ w4.drew (hlin.chg ((Chg.refl [] w4).drew)) (by omega) (by omega) (Nat.le_refl _)
  have cvr : ∀ dst, Tryd.prog.underlying dst = some .string → (convert 22 dst (.slice A1 32 k1)).run Tryd.prog w4.drew = .ok (.string (strOfNums (mroot sha [[1], [2]]))) w4.drew := rd_str (w := w4.drew) HO1.out.rd
  have cvr0 := cvr 9 Tryd.underlying9
  have HC4 : Hid (Chg [] w w4) := ((((Chg.refl [] w).alloc _).alloc _).alloc _).trans hc4
  clear hpp hbs ho2 hrb h1b hrun hlp hbp hgp hcp hv4 hlin cvr ho4 hc4
  generalize mroot sha [[1], [2]] = root at *
  refine wp_region_noPanic ?_
  refine wp_region_held_drew (S := fun w' => (convert 22 9 (.slice A1 32 k1)).run Tryd.prog w' = .ok (.string (strOfNums root)) w') (by kernel_rfl) cvr0 (fun hHeld => ?_)
  refine wpAnyH_take (i := 0) (oi := ?_) (v := ?_) ?_ (by kernel_rfl) (by kernel_rfl) (by kernel_rfl) (fun _ _ _ h => h) (Or.inl ⟨?_, ?_⟩) (by assumption) ?_
  rotate_left 2
  · simp only [List.getElem?_toArray, List.getElem?_cons_zero, List.getElem?_cons_succ]
    rfl
  · rfl
  · (intro w hSw; (try dsimp only at hSw); go_simp; (try with_reducible rfl))
  try simp only [Act.put, List.setIfInBounds_toArray, List.set_cons_zero, List.set_cons_succ]
  refine wpAnyH_take (i := 3) (oi := ?_) (v := ?_) ?_ (by kernel_rfl) (by kernel_rfl) (by kernel_rfl) (fun _ _ _ h => h) (Or.inl ⟨?_, ?_⟩) (by assumption) ?_
  rotate_left 2
  · simp only [List.getElem?_toArray, List.getElem?_cons_zero, List.getElem?_cons_succ]
    rfl
  · rfl
  · (intro w hSw; (try dsimp only at hSw); go_simp; (try with_reducible rfl))
  try simp only [Act.put, List.setIfInBounds_toArray, List.set_cons_zero, List.set_cons_succ]
  refine wpAnyH_take (i := 4) (oi := ?_) (v := ?_) ?_ (by kernel_rfl) (by kernel_rfl) (by kernel_rfl) (fun _ _ _ h => h) (Or.inl ⟨?_, ?_⟩) (by assumption) ?_
  rotate_left 2
  · simp only [List.getElem?_toArray, List.getElem?_cons_zero, List.getElem?_cons_succ]
    rfl
  · rfl
  · (intro w hSw; (try dsimp only at hSw); go_simp; (try with_reducible rfl))
  try simp only [Act.put, List.setIfInBounds_toArray, List.set_cons_zero, List.set_cons_succ]
  refine wpAnyH_ready (rs := [1]) (by kernel_rfl) (by simp) ?_
  refine AllReadyH.cons (o := ?_) ?_ (fun K hK => ?_) AllReadyH.nil
  rotate_left
  · simp only [List.getElem?_toArray, List.getElem?_cons_zero, List.getElem?_cons_succ]
    rfl
  go_simp
  go_at_call 9
  refine hcm.mono ?_
  rintro e w5 ⟨v5, rfl, ho5, hc5⟩
  have HC5 : Hid (Chg [] w4 w5) := ⟨hc5.os, hc5.tape, hc5.output, hc5.size, hc5.block⟩
  obtain ⟨A5, k5, rfl, _⟩ := ho5.form
  have cv5 := rd_str (c := k5) ho5.rd 9 Tryd.underlying9
  have cv6 := rd_str (c := k1) (HO1.out.chg HC5.out (fun _ _ => by simp)).rd 9 Tryd.underlying9
  have hmv := mverify_any 1 2 gp op cp 2 (.slice A1 32 k1) root _ vs4 w5 (HV4.out.chg HC5.out)
  clear ho5 hc5
  refine hK.out _ _ (by exact cv6) (fun hHeld => ?_)
  clear hK K
  try simp only [Act.put, List.setIfInBounds_toArray, List.set_cons_zero, List.set_cons_succ]
  refine wpAnyH_ready (rs := [2]) (by kernel_rfl) (by simp) ?_
  refine AllReadyH.cons (o := ?_) ?_ (fun K hK => ?_) AllReadyH.nil
  rotate_left
  · simp only [List.getElem?_toArray, List.getElem?_cons_zero, List.getElem?_cons_succ]
    rfl
  go_simp
  refine hK.out _ _ (by exact cv6) (fun hHeld => ?_)
  clear hK K
  try simp only [Act.put, List.setIfInBounds_toArray, List.set_cons_zero, List.set_cons_succ]
  refine wpAnyH_take (i := 5) (oi := ?_) (v := ?_) ?_ (by kernel_rfl) (by kernel_rfl) (by kernel_rfl) (fun _ _ _ h => h) (Or.inl ⟨?_, ?_⟩) (by assumption) ?_
  rotate_left 2
  · simp only [List.getElem?_toArray, List.getElem?_cons_zero, List.getElem?_cons_succ]
    rfl
  · rfl
  · (intro w hSw; (try dsimp only at hSw); go_simp; (try with_reducible rfl))
  try simp only [Act.put, List.setIfInBounds_toArray, List.set_cons_zero, List.set_cons_succ]
  refine wpAnyH_take (i := 6) (oi := ?_) (v := ?_) ?_ (by kernel_rfl) (by kernel_rfl) (by kernel_rfl) (fun _ _ _ h => h) (Or.inl ⟨?_, ?_⟩) (by assumption) ?_
  rotate_left 2
  · simp only [List.getElem?_toArray, List.getElem?_cons_zero, List.getElem?_cons_succ]
    rfl
  · rfl
  · (intro w hSw; (try dsimp only at hSw); go_simp; (try with_reducible rfl))
  try simp only [Act.put, List.setIfInBounds_toArray, List.set_cons_zero, List.set_cons_succ]
  refine wpAnyH_take (i := 7) (oi := ?_) (v := ?_) ?_ (by kernel_rfl) (by kernel_rfl) (by kernel_rfl) (fun _ _ _ h => h) (Or.inl ⟨?_, ?_⟩) (by assumption) ?_
  rotate_left 2
  · simp only [List.getElem?_toArray, List.getElem?_cons_zero, List.getElem?_cons_succ]
    rfl
  · rfl
  · (intro w hSw; (try dsimp only at hSw); go_simp; (try with_reducible rfl))
  try simp only [Act.put, List.setIfInBounds_toArray, List.set_cons_zero, List.set_cons_succ]
  refine wpAnyH_take (i := 8) (oi := ?_) (v := ?_) ?_ (by kernel_rfl) (by kernel_rfl) (by kernel_rfl) (fun _ _ _ h => h) (Or.inl ⟨?_, ?_⟩) (by assumption) ?_
  rotate_left 2
  · simp only [List.getElem?_toArray, List.getElem?_cons_zero, List.getElem?_cons_succ]
    rfl
  · rfl
  · (intro w hSw; (try dsimp only at hSw); go_simp; (try with_reducible rfl))
  try simp only [Act.put, List.setIfInBounds_toArray, List.set_cons_zero, List.set_cons_succ]
  refine wpAnyH_take (i := 9) (oi := ?_) (v := ?_) ?_ (by kernel_rfl) (by kernel_rfl) (by kernel_rfl) (fun _ _ _ h => h) (Or.inl ⟨?_, ?_⟩) (by assumption) ?_
  rotate_left 2
  · simp only [List.getElem?_toArray, List.getElem?_cons_zero, List.getElem?_cons_succ]
    rfl
  · rfl
  · (intro w hSw; (try dsimp only at hSw); go_simp; (try with_reducible rfl))
  try simp only [Act.put, List.setIfInBounds_toArray, List.set_cons_zero, List.set_cons_succ]
  refine wpAnyH_take (i := 10) (oi := ?_) (v := ?_) ?_ (by kernel_rfl) (by kernel_rfl) (by kernel_rfl) (fun _ _ _ h => h) (Or.inl ⟨?_, ?_⟩) (by assumption) ?_
  rotate_left 2
  · simp only [List.getElem?_toArray, List.getElem?_cons_zero, List.getElem?_cons_succ]
    rfl
  · rfl
  · (intro w hSw; (try dsimp only at hSw); go_simp; (try with_reducible rfl))
  try simp only [Act.put, List.setIfInBounds_toArray, List.set_cons_zero, List.set_cons_succ]
  refine wpAnyH_take (i := 11) (oi := ?_) (v := ?_) ?_ (by kernel_rfl) (by kernel_rfl) (by kernel_rfl) (fun _ _ _ h => h) (Or.inl ⟨?_, ?_⟩) (by assumption) ?_
  rotate_left 2
  · simp only [List.getElem?_toArray, List.getElem?_cons_zero, List.getElem?_cons_succ]
    rfl
  · rfl
  · (intro w hSw; (try dsimp only at hSw); go_simp; (try with_reducible rfl))
  try simp only [Act.put, List.setIfInBounds_toArray, List.set_cons_zero, List.set_cons_succ]
  refine wpAnyH_take (i := 12) (oi := ?_) (v := ?_) ?_ (by kernel_rfl) (by kernel_rfl) (by kernel_rfl) (fun _ _ _ h => h) (Or.inl ⟨?_, ?_⟩) (by assumption) ?_
  rotate_left 2
  · simp only [List.getElem?_toArray, List.getElem?_cons_zero, List.getElem?_cons_succ]
    rfl
  · rfl
  · (intro w hSw; (try dsimp only at hSw); go_simp; (try with_reducible rfl))
  try simp only [Act.put, List.setIfInBounds_toArray, List.set_cons_zero, List.set_cons_succ]
  refine wpAnyH_take (i := 13) (oi := ?_) (v := ?_) ?_ (by kernel_rfl) (by kernel_rfl) (by kernel_rfl) (fun _ _ _ h => h) (Or.inl ⟨?_, ?_⟩) (by assumption) ?_
  rotate_left 2
  · simp only [List.getElem?_toArray, List.getElem?_cons_zero, List.getElem?_cons_succ]
    rfl
  · rfl
  · (intro w hSw; (try dsimp only at hSw); go_simp; (try with_reducible rfl))
  try simp only [Act.put, List.setIfInBounds_toArray, List.set_cons_zero, List.set_cons_succ]
  refine wpAnyH_take (i := 14) (oi := ?_) (v := ?_) ?_ (by kernel_rfl) (by kernel_rfl) (by kernel_rfl) (fun _ _ _ h => h) (Or.inl ⟨?_, ?_⟩) (by assumption) ?_
  rotate_left 2
  · simp only [List.getElem?_toArray, List.getElem?_cons_zero, List.getElem?_cons_succ]
    rfl
  · rfl
  · (intro w hSw; (try dsimp only at hSw); go_simp; (try with_reducible rfl))
  try simp only [Act.put, List.setIfInBounds_toArray, List.set_cons_zero, List.set_cons_succ]
  refine wpAnyH_take (i := 15) (oi := ?_) (v := ?_) ?_ (by kernel_rfl) (by kernel_rfl) (by kernel_rfl) (fun _ _ _ h => h) (Or.inl ⟨?_, ?_⟩) (by assumption) ?_
  rotate_left 2
  · simp only [List.getElem?_toArray, List.getElem?_cons_zero, List.getElem?_cons_succ]
    rfl
  · rfl
  · (intro w hSw; (try dsimp only at hSw); go_simp; (try with_reducible rfl))
  try simp only [Act.put, List.setIfInBounds_toArray, List.set_cons_zero, List.set_cons_succ]
  refine wpAnyH_take (i := 16) (oi := ?_) (v := ?_) ?_ (by kernel_rfl) (by kernel_rfl) (by kernel_rfl) (fun _ _ _ h => h) (Or.inl ⟨?_, ?_⟩) (by assumption) ?_
  rotate_left 2
  · simp only [List.getElem?_toArray, List.getElem?_cons_zero, List.getElem?_cons_succ]
    rfl
  · rfl
  · (intro w hSw; (try dsimp only at hSw); go_simp; (try with_reducible rfl))
  try simp only [Act.put, List.setIfInBounds_toArray, List.set_cons_zero, List.set_cons_succ]
  refine wpAnyH_take (i := 17) (oi := ?_) (v := ?_) ?_ (by kernel_rfl) (by kernel_rfl) (by kernel_rfl) (fun _ _ _ h => h) (Or.inl ⟨?_, ?_⟩) (by assumption) ?_
  rotate_left 2
  · simp only [List.getElem?_toArray, List.getElem?_cons_zero, List.getElem?_cons_succ]
    rfl
  · rfl
  · (intro w hSw; (try dsimp only at hSw); go_simp; (try with_reducible rfl))
  try simp only [Act.put, List.setIfInBounds_toArray, List.set_cons_zero, List.set_cons_succ]
  refine wpAnyH_take (i := 18) (oi := ?_) (v := ?_) ?_ (by kernel_rfl) (by kernel_rfl) (by kernel_rfl) (fun _ _ _ h => h) (Or.inl ⟨?_, ?_⟩) (by assumption) ?_
  rotate_left 2
  · simp only [List.getElem?_toArray, List.getElem?_cons_zero, List.getElem?_cons_succ]
    rfl
  · rfl
  · (intro w hSw; (try dsimp only at hSw); go_simp; (try with_reducible rfl))
  try simp only [Act.put, List.setIfInBounds_toArray, List.set_cons_zero, List.set_cons_succ]
  refine wpAnyH_take (i := 19) (oi := ?_) (v := ?_) ?_ (by kernel_rfl) (by kernel_rfl) (by kernel_rfl) (fun _ _ _ h => h) (Or.inl ⟨?_, ?_⟩) (by assumption) ?_
  rotate_left 2
  · simp only [List.getElem?_toArray, List.getElem?_cons_zero, List.getElem?_cons_succ]
    rfl
  · rfl
  · (intro w hSw; (try dsimp only at hSw); go_simp; (try with_reducible rfl))
  try simp only [Act.put, List.setIfInBounds_toArray, List.set_cons_zero, List.set_cons_succ]
  refine wpAnyH_take (i := 20) (oi := ?_) (v := ?_) ?_ (by kernel_rfl) (by kernel_rfl) (by kernel_rfl) (fun _ _ _ h => h) (Or.inl ⟨?_, ?_⟩) (by assumption) ?_
  rotate_left 2
  · simp only [List.getElem?_toArray, List.getElem?_cons_zero, List.getElem?_cons_succ]
    rfl
  · rfl
  · (intro w hSw; (try dsimp only at hSw); go_simp; (try with_reducible rfl))
  try simp only [Act.put, List.setIfInBounds_toArray, List.set_cons_zero, List.set_cons_succ]
  refine wpAnyH_take (i := 21) (oi := ?_) (v := ?_) ?_ (by kernel_rfl) (by kernel_rfl) (by kernel_rfl) (fun _ _ _ h => h) (Or.inl ⟨?_, ?_⟩) (by assumption) ?_
  rotate_left 2
  · simp only [List.getElem?_toArray, List.getElem?_cons_zero, List.getElem?_cons_succ]
    rfl
  · rfl
  · (intro w hSw; (try dsimp only at hSw); go_simp; (try with_reducible rfl))
  try simp only [Act.put, List.setIfInBounds_toArray, List.set_cons_zero, List.set_cons_succ]
  refine wpAnyH_take (i := 22) (oi := ?_) (v := ?_) ?_ (by kernel_rfl) (by kernel_rfl) (by kernel_rfl) (fun _ _ _ h => h) (Or.inl ⟨?_, ?_⟩) (by assumption) ?_
  rotate_left 2
  · simp only [List.getElem?_toArray, List.getElem?_cons_zero, List.getElem?_cons_succ]
    rfl
  · rfl
  · (intro w hSw; (try dsimp only at hSw); go_simp; (try with_reducible rfl))
  try simp only [Act.put, List.setIfInBounds_toArray, List.set_cons_zero, List.set_cons_succ]
  refine wpAnyH_take (i := 23) (oi := ?_) (v := ?_) ?_ (by kernel_rfl) (by kernel_rfl) (by kernel_rfl) (fun _ _ _ h => h) (Or.inl ⟨?_, ?_⟩) (by assumption) ?_
  rotate_left 2
  · simp only [List.getElem?_toArray, List.getElem?_cons_zero, List.getElem?_cons_succ]
    rfl
  · rfl
  · (intro w hSw; (try dsimp only at hSw); go_simp; (try with_reducible rfl))
  try simp only [Act.put, List.setIfInBounds_toArray, List.set_cons_zero, List.set_cons_succ]
  refine wpAnyH_take (i := 24) (oi := ?_) (v := ?_) ?_ (by kernel_rfl) (by kernel_rfl) (by kernel_rfl) (fun _ _ _ h => h) (Or.inl ⟨?_, ?_⟩) (by assumption) ?_
  rotate_left 2
  · simp only [List.getElem?_toArray, List.getElem?_cons_zero, List.getElem?_cons_succ]
    rfl
  · rfl
  · (intro w hSw; (try dsimp only at hSw); go_simp; (try with_reducible rfl))
  try simp only [Act.put, List.setIfInBounds_toArray, List.set_cons_zero, List.set_cons_succ]
  refine wpAnyH_take (i := 25) (oi := ?_) (v := ?_) ?_ (by kernel_rfl) (by kernel_rfl) (by kernel_rfl) (fun _ _ _ h => h) (Or.inl ⟨?_, ?_⟩) (by assumption) ?_
  rotate_left 2
  · simp only [List.getElem?_toArray, List.getElem?_cons_zero, List.getElem?_cons_succ]
    rfl
  · rfl
  · (intro w hSw; (try dsimp only at hSw); go_simp; (try with_reducible rfl))
  try simp only [Act.put, List.setIfInBounds_toArray, List.set_cons_zero, List.set_cons_succ]
  refine wpAnyH_take (i := 26) (oi := ?_) (v := ?_) ?_ (by kernel_rfl) (by kernel_rfl) (by kernel_rfl) (fun _ _ _ h => h) (Or.inl ⟨?_, ?_⟩) (by assumption) ?_
  rotate_left 2
  · simp only [List.getElem?_toArray, List.getElem?_cons_zero, List.getElem?_cons_succ]
    rfl
  · rfl
  · (intro w hSw; (try dsimp only at hSw); go_simp; (try with_reducible rfl))
  try simp only [Act.put, List.setIfInBounds_toArray, List.set_cons_zero, List.set_cons_succ]
  refine wpAnyH_ready (rs := [27]) (by kernel_rfl) (by simp) ?_
  refine AllReadyH.cons (o := ?_) ?_ (fun K hK => ?_) AllReadyH.nil
  rotate_left
  · simp only [List.getElem?_toArray, List.getElem?_cons_zero, List.getElem?_cons_succ]
    rfl
  go_simp
  go_at_call 7
  refine hmv.mono ?_
  rintro e w6 ⟨rfl, hc6⟩
  have HC6 : Hid (Chg [] w w6) := (HC4.out.trans HC5.out).trans hc6
  have cv7 := rd_str (c := k1) ((HO1.out.chg HC5.out (fun _ _ => by simp)).chg hc6 (fun _ _ => by simp)).rd 9 Tryd.underlying9
  clear hc6
  refine hK.out _ _ (by exact cv7) (fun hHeld => ?_)
  clear hK K
  try simp only [Act.put, List.setIfInBounds_toArray, List.set_cons_zero, List.set_cons_succ]
  refine wpAnyH_take (i := 28) (oi := ?_) (v := ?_) ?_ (by kernel_rfl) (by kernel_rfl) (by kernel_rfl) (fun _ _ _ h => h) (Or.inl ⟨?_, ?_⟩) (by assumption) ?_
  rotate_left 2
  · simp only [List.getElem?_toArray, List.getElem?_cons_zero, List.getElem?_cons_succ]
    rfl
  · rfl
  · (intro w hSw; (try dsimp only at hSw); go_simp; (try with_reducible rfl))
  try simp only [Act.put, List.setIfInBounds_toArray, List.set_cons_zero, List.set_cons_succ]
  refine wpAnyH_take (i := 29) (oi := ?_) (v := ?_) ?_ (by kernel_rfl) (by kernel_rfl) (by kernel_rfl) (fun _ _ _ h => h) (Or.inl ⟨?_, ?_⟩) (by assumption) ?_
  rotate_left 2
  · simp only [List.getElem?_toArray, List.getElem?_cons_zero, List.getElem?_cons_succ]
    rfl
  · rfl
  · (intro w hSw; (try dsimp only at hSw); go_simp; (try with_reducible rfl))
  try simp only [Act.put, List.setIfInBounds_toArray, List.set_cons_zero, List.set_cons_succ]
  refine wpAnyH_done (by kernel_rfl) ?_ _
  refine NoPanic.normal ?_
  go_wp2_with fail
  go_ret
  exact ⟨rfl, HC6.out⟩
end Go.Proofs.YtcpeldnikloebaaDoor
