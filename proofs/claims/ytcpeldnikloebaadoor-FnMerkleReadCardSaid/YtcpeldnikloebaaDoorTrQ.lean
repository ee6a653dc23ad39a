/- The walk of the tree's Push. -/
import Derived.Test.YtcpeldnikloebaaDoorTrP
set_option linter.unusedVariables false
set_option linter.unusedSimpArgs false
namespace Go.Proofs.YtcpeldnikloebaaDoor
open Go.RowKit Go.Mm Go.Sha Merk

/-- a leaf has been put ahead -/
theorem Tr.leaf {wd w2 w3 : World} {T D base g : Nat} {pf : Bool} {idx : Nat} {head sv : Value} {x : List Int} {k : Stk} {pv : Value} {ps : List (List Int)} {cur : Nat} (ht : Tr wd T D base pf idx head k pv ps cur)
    (hc2 : Chg [T] wd w2) (hT2 : Blk w2 T 73 #[pt g, hv D, .int .u64 cur, .int .u64 idx, pv, .bool pf, .bool false]) (hg : wd.heap.size ≤ g) (hB2 : Blk w2 g 75 #[head, .int .i64 0, .slice none 0 0])
    (hc3 : Chg [D] w2 w3) (hh : Hs w3 D) (ho : Own w3 w2.heap.size 5 1 sv 32 (vb (sha x))) :
    Tr (w3.setCell ⟨g, 2, none⟩ sv) T D base pf idx (pt g) ((0, sha x) :: k) pv ps cur ∧ Chg [T, D] wd (w3.setCell ⟨g, 2, none⟩ sv) := by
  have hTl := ht.blk.lt
  have hDl := ht.hs.lt
  have hs2 := hc2.size
  have hne := ht.ne
  obtain ⟨vs, hown, hbs⟩ := ht.own
  have hpl := hown.lt
  have hlow : ∀ y ∈ (T :: D :: pv.ownBlock.toList), y < wd.heap.size := by
    intro y hm
    simp at hm
    rcases hm with rfl | rfl | h
    · exact hTl
    · exact hDl
    · exact (hpl y h).2
  have hc13 : Chg [T, D] wd w3 := (hc2.mono (by simp)).trans (hc3.mono (by simp))
  have hset : Chg [g] w3 (w3.setCell ⟨g, 2, none⟩ sv) := (Chg.refl [g] w3).setCell (p := ⟨g, 2, none⟩) (.inl (by simp)) _
  have hcf : Chg [T, D] wd (w3.setCell ⟨g, 2, none⟩ sv) := hc13.setCell (p := ⟨g, 2, none⟩) (.inr hg) _
  have hC : ∀ y ∈ [T, D], y ∈ (T :: D :: pv.ownBlock.toList) ∨ wd.heap.size ≤ y := by
    intro y hm; left; simp at hm ⊢
    rcases hm with h | h
    · exact .inl h
    · exact .inr (.inl h)
  refine ⟨⟨?_, hh.chg hset (by simp; omega), ht.ne, ?_, ?_, ht.a1, ht.a2, Nat.le_trans ht.base hcf.size⟩, hcf⟩
  · exact (hT2.chg hc3 (by simp; exact hne)).chg hset (by simp; omega)
  · refine ⟨g, head, sv, rfl, fun hm => ?_, (hB2.chg hc3 (by simp; omega)).set_ 2 sv, ?_, sha_len _, ht.chain.chg hcf hC⟩
    · have := hlow g hm; omega
    · exact (Bs.of_own (g :: T :: D :: pv.ownBlock.toList) ho (sha_bytes _) (fun y hm => by
        rcases List.mem_cons.1 hm with rfl | hm
        · exact hB2.lt
        · have := hlow y hm; omega)).chg hset (by intro y hm; left; simp at hm; simp [hm]) |>.more (fun y hm => .inl (List.mem_cons_of_mem _ hm))
  · refine ⟨vs, hown.chg hcf (fun y e => ?_), hbs.chg hcf hC⟩
    simp only [List.mem_cons, List.not_mem_nil, or_false, not_or]
    exact ⟨fun e' => ht.a1 (by rw [e, e']), fun e' => ht.a2 (by rw [e, e'])⟩
/-- the next place is stored -/
theorem Tr.count {w : World} {T D base : Nat} {pf : Bool} {idx : Nat} {head : Value} {k : Stk} {pv : Value} {ps : List (List Int)} {cur : Nat} (ht : Tr w T D base pf idx head k pv ps cur) :
    Tr (w.setCell ⟨T, 2, none⟩ (.int .u64 ((cur : Int) + 1))) T D base pf idx head k pv ps (cur + 1) ∧ Chg [T] w (w.setCell ⟨T, 2, none⟩ (.int .u64 ((cur : Int) + 1))) := by
  obtain ⟨vs, hown, hbs⟩ := ht.own
  have hc : Chg [T] w (w.setCell ⟨T, 2, none⟩ (.int .u64 ((cur : Int) + 1))) := (Chg.refl [T] w).setCell (p := ⟨T, 2, none⟩) (.inl (by simp)) _
  have hC : ∀ y ∈ [T], y ∈ (T :: D :: pv.ownBlock.toList) ∨ w.heap.size ≤ y := by intro y hm; left; simp at hm; simp [hm]
  refine ⟨⟨ht.blk.set_ 2 _, ht.hs.chg hc (by simp; exact fun e => ht.ne e.symm), ht.ne, ht.chain.chg hc hC, ⟨vs, hown.chg hc (fun y e => ?_), hbs.chg hc hC⟩, ht.a1, ht.a2, Nat.le_trans ht.base hc.size⟩, hc⟩
  simp only [List.mem_singleton]
  rintro rfl
  exact ht.a1 e

set_option maxRecDepth 20000 in
set_option maxHeartbeats 8000000 in
theorem tpush_any (T D base : Nat) (pf : Bool) (idx cur : Nat) (head pv dv : Value) (x : List Int) (k : Stk) (ps : List (List Int)) (w : World)
    (ht : Tr w T D base pf idx head k pv ps cur) (hx : Bs w (T :: D :: pv.ownBlock.toList) dv x) (hxl : x.length < 1000000) (hw : wsum k = cur) (hcur : cur ≤ 250) (hidx : idx < 256) (hps : ps.length ≤ 290) :
    Calls Tryd.prog 23 #[pt T, dv] w fun e w' => e = .returned (.tuple #[]) ∧ ∃ head' pv', Tr w' T D base pf idx head' (pushP sha idx cur k ps x).1 pv' (pushP sha idx cur k ps x).2 (cur + 1) ∧
      Chg (T :: D :: pv.ownBlock.toList) w w' ∧ (pv'.ownBlock = pv.ownBlock ∨ ∀ g, pv'.ownBlock = some g → w.heap.size ≤ g) := by
  obtain ⟨i0, hi0, hz0, hz1, hz2⟩ := info_parts info_u8s
  obtain ⟨Ap, cp, rfl, hcp, hcm⟩ : ∃ A c, pv = .slice A ps.length c ∧ ps.length ≤ c ∧ c ≤ maxLen := by
    obtain ⟨vs, hown, _⟩ := ht.own
    exact hown.form
  obtain ⟨xh, rfl⟩ := ht.chain.ptr
  have t0 : w.cell? ⟨T, 0, none⟩ = some (.pointer xh) := ht.blk.cell 0
  have t2 : w.cell? ⟨T, 2, none⟩ = some (.int .u64 cur) := ht.blk.cell 2
  have t3 : w.cell? ⟨T, 3, none⟩ = some (.int .u64 idx) := ht.blk.cell 3
  have t4 : w.cell? ⟨T, 4, none⟩ = some (.slice Ap ps.length cp) := ht.blk.cell 4
  have z4 : w.frozen? ⟨T, 4, none⟩ = false := ht.blk.frozen 4
  have htl := ht.blk.lt
  have hb0 := ht.base
  have hx' := hx
  obtain ⟨Ax, cx, rfl, _⟩ := hx'
  have HT : Hid (Tr w T D base pf idx (.pointer xh) k (.slice Ap ps.length cp) ps cur) := ht
  have HX : Hid (Bs w (T :: D :: (Value.slice Ap ps.length cp).ownBlock.toList) (.slice Ax x.length cx) x) := hx
  have HW : Hid (wsum k = cur) := hw
  clear ht hx hw
  go_enter Tryd.func23, Tryd.ntmps23
  go_wp2_with fail
  go_quiet (fail)
  go_upto_if 12 with fail
  go_cut [] from 4 (fun wx => ∃ pv1, Tr wx T D base pf idx (.pointer xh) k pv1 (if cur = idx then ps ++ [x] else ps) cur ∧ Bs wx (T :: D :: pv1.ownBlock.toList) (.slice Ax x.length cx) x ∧
    Chg (T :: D :: (Value.slice Ap ps.length cp).ownBlock.toList) w wx ∧ (pv1.ownBlock = (Value.slice Ap ps.length cp).ownBlock ∨ ∀ g, pv1.ownBlock = some g → w.heap.size ≤ g))
  case first =>
    by_cases hci : cur = idx
    · obtain ⟨vs, hown, hbs⟩ := HT.out.own
      have HB : Hid (Bss w (T :: D :: (Value.slice Ap ps.length cp).ownBlock.toList) vs ps) := hbs
      have HO : Hid (Own w base 22 1 (.slice Ap ps.length cp) ps.length vs) := hown
      clear hbs hown
      go_wp2_with (at_builtin; refine wpList_append_mm _ rfl _ _ 24 rfl base 22 i0 _ 1 24 Tryd.underlying24 hi0 hz0 hz1 hz2 rfl (by omega) (.slice Ap ps.length cp) ps.length vs rfl ((HO.out.drewN _).alloc _) (some ⟨w.heap.size, 0, none⟩) 1 1 [.slice Ax x.length cx] rfl (Rd.of_blk (Blk.new _ _ _) rfl rfl (Nat.le_refl _)) (by simp [Value.oneCell']) (by simp only [maxLen]; omega) (by omega) (by simp; omega) ?_; intro v2 w2 hown2 hg2 hat2; have hbT := ((HT.out.blk.drewN _).alloc _).grown hg2 (fun e => HT.out.a1 e.symm); have f4 : w2.cell? ⟨T, 4, none⟩ = some (.slice Ap ps.length cp) := hbT.cell 4; have z4 : w2.frozen? ⟨T, 4, none⟩ = false := hbT.frozen 4; obtain ⟨Av, cv, hve, _⟩ := hown2.form; subst hve; clear hbT)
      go_meet
      obtain ⟨htn, hcn, hvn⟩ := Tr.app (s := x) HT.out (((Chg.refl [] w).drewN _).alloc _) HB.out HX.out HO.out hown2 hg2 hat2
      rw [if_pos hci]
      refine ⟨_, htn, ?_, hcn.mono (by intro y hm; simp at hm ⊢; rcases hm with h | h <;> simp [h]), hvn⟩
      refine ((HX.out.more (T := (T :: D :: (Value.slice Ap ps.length cp).ownBlock.toList) ++ (Value.slice Av (ps.length + 1) cv).ownBlock.toList) (fun y hm => ?_)).chg hcn (fun y hm => ?_)).more (fun y hm => ?_)
      · rcases List.mem_append.1 hm with h | h
        · exact .inl h
        · rcases hvn with e | e
          · rw [e] at h; left; simp at h ⊢; exact .inr (.inr h)
          · exact .inr (e y (by simpa using h))
      · left; simp at hm ⊢; rcases hm with h | h
        · exact .inl h
        · exact .inr (.inr (.inl h))
      · left; simp at hm ⊢; rcases hm with h | h | h
        · exact .inl h
        · exact .inr (.inl h)
        · exact .inr (.inr (.inr h))
    · have hci' : ((cur : Int) == (idx : Int)) = false := by simp; omega
      go_wp2_with fail
      go_meet
      rw [if_neg hci]
      exact ⟨_, HT.out.chg ((Chg.refl [] _).drewN _), HX.out.drewN _, (Chg.refl _ _).drewN _, .inl rfl⟩
  case rest =>
    obtain ⟨pv1, ht1, hx1, hc1, hp1⟩ := hcut
    clear t0 t2 t3 t4 z4 hcp hcm htl hb0
    generalize hpse : (if cur = idx then ps ++ [x] else ps) = ps1 at ht1
    have hpl1 : ps1.length ≤ ps.length + 1 := by rw [← hpse]; split <;> simp
    have HPS : Hid _ := hpse
    obtain ⟨Aq, cq, rfl, _⟩ : ∃ A c, pv1 = .slice A ps1.length c ∧ ps1.length ≤ c ∧ c ≤ maxLen := by
      obtain ⟨vs, hown, _⟩ := ht1.own
      exact hown.form
    have t0 : wc.cell? ⟨T, 0, none⟩ = some (.pointer xh) := ht1.blk.cell 0
    have z0 : wc.frozen? ⟨T, 0, none⟩ = false := ht1.blk.frozen 0
    have t6 : wc.cell? ⟨T, 6, none⟩ = some (.bool false) := ht1.blk.cell 6
    have htl := ht1.blk.lt
    have HT1 : Hid (Tr wc T D base pf idx (.pointer xh) k (.slice Aq ps1.length cq) ps1 cur) := ht1
    have HX1 : Hid (Bs wc (T :: D :: (Value.slice Aq ps1.length cq).ownBlock.toList) (.slice Ax x.length cx) x) := hx1
    have HC1 : Hid _ := hc1
    have HP1 : Hid _ := hp1
    clear ht1 hx1 hc1 hp1 hpse
    go_wp2_with fail
    obtain ⟨w2, hw2⟩ : ∃ w2, w2 = (wc.setCell ⟨T, 0, none⟩ (.pointer (some ⟨wc.heap.size, 0, none⟩))).alloc (.cells #[.pointer xh, .int .i64 0, .slice none 0 0] 75) := ⟨_, rfl⟩
    rw [← hw2]
    have hsz : (wc.setCell ⟨T, 0, none⟩ (.pointer (some ⟨wc.heap.size, 0, none⟩))).heap.size = wc.heap.size := by simp [World.setCell]
    have hc2 : Chg [T] wc w2 := by rw [hw2]; exact ((Chg.refl [T] wc).setCell (p := ⟨T, 0, none⟩) (.inl (by simp)) _).alloc _
    have hT2 : Blk w2 T 73 #[pt wc.heap.size, hv D, .int .u64 cur, .int .u64 idx, .slice Aq ps1.length cq, .bool pf, .bool false] := by rw [hw2]; exact (HT1.out.blk.set_ 0 (pt wc.heap.size)).alloc _
    have hB2 : Blk w2 wc.heap.size 75 #[.pointer xh, .int .i64 0, .slice none 0 0] := by
      rw [hw2]
      have := Blk.new (wc.setCell ⟨T, 0, none⟩ (.pointer (some ⟨wc.heap.size, 0, none⟩))) 75 #[.pointer xh, .int .i64 0, .slice none 0 0]
      rwa [hsz] at this
    clear hw2 hsz
    have hDl := HT1.out.hs.lt
    have hTD := HT1.out.ne
    have hgl := hB2.lt
    have hTl2 := hT2.lt
    have hcs := tleaf_any D (.slice Ax x.length cx) x w2.drew (HT1.out.hs.chg hc2.drew (by simp; omega)) ((HX1.out.chg hc2.drew (by intro y hm; left; simp at hm; simp [hm])).more (by intro y hm; left; simp at hm; simp [hm])) (by omega)
    have q0 : w2.cell? ⟨T, 0, none⟩ = some (pt wc.heap.size) := hT2.cell 0
    have q1 : w2.cell? ⟨T, 1, none⟩ = some (hv D) := hT2.cell 1
    have HB2 : Hid (Blk w2 wc.heap.size 75 #[.pointer xh, .int .i64 0, .slice none 0 0]) := hB2
    have HT2 : Hid (Blk w2 T 73 #[pt wc.heap.size, hv D, .int .u64 cur, .int .u64 idx, .slice Aq ps1.length cq, .bool pf, .bool false]) := hT2
    have HC2 : Hid (Chg [T] wc w2) := hc2
    clear hB2 hT2 hc2 t0 z0 t6
    generalize hge : wc.heap.size = g at *
    have HG : Hid (wc.heap.size = g) := hge
    clear hge
    go_region_held3 (fun w' => w'.cell? ⟨T, 0, none⟩ = some (pt g) ∧ w'.cell? ⟨T, 1, none⟩ = some (hv D))
      (first
        | go_keep
        | exact ⟨f0, f1⟩
        | exact ⟨(World.cell?_setCell_other _ _ _ _ (by intro e; injection e with e1 e2; omega)).trans f0, (World.cell?_setCell_other _ _ _ _ (by intro e; injection e with e1 e2; omega)).trans f1⟩)
      ((first | (go_at_call 32; refine hcs.mono ?_; rintro e w7 ⟨sv, rfl, ho7, hc7, hh7⟩; have f0 : w7.cell? ⟨T, 0, none⟩ = some (pt g) := (HT2.out.drew.chg hc7 (by simp; omega)).cell 0; have f1 : w7.cell? ⟨T, 1, none⟩ = some (hv D) := (HT2.out.drew.chg hc7 (by simp; omega)).cell 1; have f2 : w7.cell? ⟨g, 2, none⟩ = some (.slice none 0 0) := (HB2.out.drew.chg hc7 (by simp; omega)).cell 2; have z2 : w7.frozen? ⟨g, 2, none⟩ = false := (HB2.out.drew.chg hc7 (by simp; omega)).frozen 2; obtain ⟨Av, cv, hve, _⟩ := ho7.form; subst hve)))
    rename (World.cell? _ _ = _ ∧ _) => hHeld
    clear hHeld
    obtain ⟨ht8, hc8⟩ := Tr.leaf HT1.out HC2.out.drew HT2.out.drew (by rw [HG.out]; exact Nat.le_refl _) HB2.out.drew (w3 := w7) hc7 hh7 ho7
    clear hcs q0 q1 f0 f1 f2 z2 hc7 hh7 ho7
    generalize w7.setCell ⟨g, 2, none⟩ (.slice Av 32 cv) = w8 at *
    have hcj := tjoinall_any T D base pf idx cur 0 (pt g) (.slice Aq ps1.length cq) (sha x) k ps1 w8 ht8 (by rw [HW.out]; omega) (by omega) hidx (by omega)
    have HT8 : Hid _ := ht8
    have HC8 : Hid (Chg [T, D] wc w8) := hc8
    clear ht8 hc8
    have hcw : IntKind.u64.wrap ((cur : Int) + 1) = (cur : Int) + 1 := IntWalk.u64_in _ (by omega)
    have HJ : Hid ((joinAllP sha idx cur 0 (sha x) k ps1) = pushP sha idx cur k ps x) := by
      have := HPS.out
      show _ = joinAllP sha idx cur 0 (sha x) k (if cur = idx then ps ++ [x] else ps)
      rw [this]
    go_wp2_with (go_at_call 35; refine hcj.mono ?_; rintro e w9 ⟨rfl, head9, pv9, ht9, hc9, hp9⟩; rw [HJ.out] at ht9; have u2 : w9.cell? ⟨T, 2, none⟩ = some (.int .u64 cur) := ht9.blk.cell 2; have z2 : w9.frozen? ⟨T, 2, none⟩ = false := ht9.blk.frozen 2; have HT9 : Hid _ := ht9; have HC9 : Hid _ := hc9; have HP9 : Hid _ := hp9; clear ht9 hc9 hp9)
    go_end0
    obtain ⟨htf, hcf⟩ := Tr.count HT9.out
    have hc89 : Chg (T :: D :: (Value.slice Aq ps1.length cq).ownBlock.toList) wc w9 := (HC8.out.mono (by intro y hm; simp at hm ⊢; rcases hm with h | h <;> simp [h])).trans HC9.out
    refine ⟨rfl, head9, pv9, htf, ?_, ?_⟩
    · refine (chg_next HC1.out HP1.out hc89 (fun y hm => ?_)).trans (hcf.mono (by simp))
      simp at hm
      rcases hm with h | h | h
      · exact .inl h
      · exact .inr (.inl h)
      · exact .inr (.inr h)
    · refine pv_next HC1.out HP1.out ?_
      rcases HP9.out with h | h
      · exact .inl h
      · exact .inr (fun y e => Nat.le_trans HC8.out.size (h y e))
end Go.Proofs.YtcpeldnikloebaaDoor
