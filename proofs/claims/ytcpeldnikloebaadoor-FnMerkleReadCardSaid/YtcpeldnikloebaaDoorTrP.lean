/- The walks of the tree: joinAllSubTrees, Push. -/
import Derived.Test.YtcpeldnikloebaaDoorTrS
import Derived.Test.YtcpeldnikloebaaDoorMerkP
import Derived.Deep.RegionLaw
import Derived.Deep.CutRange
set_option linter.unusedVariables false
set_option linter.unusedSimpArgs false
namespace Go.Proofs.YtcpeldnikloebaaDoor
open Go.RowKit Go.Mm Go.Sha Merk

theorem info_u8s : (Tryd.prog.info? 22).map (fun i => (i.zero, i.size, i.bytes)) = some (some (.slice none 0 0), 1, 24) := by kernel_rfl
/-- the list of sub-trees that hangs at p -/
def Chain (w : World) (S : List Nat) : Stk → Value → Prop
  | [], p => p = .pointer none
  | (h, s) :: r, p => ∃ g nx sv, p = pt g ∧ g ∉ S ∧ Blk w g 75 #[nx, .int .i64 h, sv] ∧ Bs w S sv s ∧ s.length = 32 ∧ Chain w S r nx
theorem Chain.chg {w w' : World} {S T : List Nat} (hc : Chg T w w') (hs : ∀ k ∈ T, k ∈ S ∨ w.heap.size ≤ k) : ∀ {k : Stk} {p : Value}, Chain w S k p → Chain w' S k p
  | [], _, h => h
  | (_, _) :: _, _, ⟨g, nx, sv, e, hg, hb, hv, hl, hr⟩ => ⟨g, nx, sv, e, hg, hb.chg hc (fun hm => by
      rcases hs g hm with h | h
      · exact hg h
      · have := hb.lt; omega), hv.chg hc hs, hl, Chain.chg hc hs hr⟩
theorem Chain.more {w : World} {S T : List Nat} (hs : ∀ k ∈ T, k ∈ S ∨ w.heap.size ≤ k) : ∀ {k : Stk} {p : Value}, Chain w S k p → Chain w T k p
  | [], _, h => h
  | (_, _) :: _, _, ⟨g, nx, sv, e, hg, hb, hv, hl, hr⟩ => ⟨g, nx, sv, e, (fun hm => by
      rcases hs g hm with h | h
      · exact hg h
      · have := hb.lt; omega), hb, hv.more hs, hl, Chain.more hs hr⟩
theorem Chain.ptr {w : World} {S : List Nat} {k : Stk} {p : Value} (h : Chain w S k p) : ∃ x, p = .pointer x := by
  cases k with
  | nil => exact ⟨none, h⟩
  | cons q r =>
    obtain ⟨h', s⟩ := q
    obtain ⟨g, nx, sv, e, _⟩ := h
    exact ⟨_, e⟩
/-- how many leaves the sub-trees hold -/
def wsum : Stk → Nat
  | [] => 0
  | (h, _) :: r => 2 ^ h + wsum r
theorem wsum_joinAll (H : List Int → List Int) (k : Stk) : ∀ h s, wsum (joinAll H h s k) = 2 ^ h + wsum k := by
  induction k with
  | nil => intro h s; rfl
  | cons p r ih =>
    obtain ⟨h', s'⟩ := p
    intro h s
    unfold joinAll
    split
    · rename_i e; subst e; rw [ih]; simp only [wsum]; rw [Nat.pow_succ]; omega
    · rfl
theorem pow_lt8 {h n : Nat} (h1 : 2 ^ h ≤ n) (h2 : n ≤ 255) : h < 8 := by
  rcases Nat.lt_or_ge h 8 with h3 | h3
  · exact h3
  · have := Nat.pow_le_pow_right (n := 2) (by omega) h3
    omega

/-- the slices that a list of byte slices is made of -/
def Bss (w : World) (S : List Nat) (vs : List Value) (ls : List (List Int)) : Prop := vs.length = ls.length ∧ ∀ k, k < ls.length → Bs w S (vs.getD k default) (ls.getD k [])
theorem Bss.chg {w w' : World} {S T : List Nat} {vs : List Value} {ls : List (List Int)} (h : Bss w S vs ls) (hc : Chg T w w') (hs : ∀ k ∈ T, k ∈ S ∨ w.heap.size ≤ k) : Bss w' S vs ls :=
  ⟨h.1, fun k hk => (h.2 k hk).chg hc hs⟩
theorem Bss.more {w : World} {S T : List Nat} {vs : List Value} {ls : List (List Int)} (h : Bss w S vs ls) (hs : ∀ k ∈ T, k ∈ S ∨ w.heap.size ≤ k) : Bss w T vs ls :=
  ⟨h.1, fun k hk => (h.2 k hk).more hs⟩
theorem Bss.snoc {w : World} {S : List Nat} {vs : List Value} {ls : List (List Int)} {v : Value} {l : List Int} (h : Bss w S vs ls) (hv : Bs w S v l) : Bss w S (vs ++ [v]) (ls ++ [l]) := by
  refine ⟨by simp [h.1], fun k hk => ?_⟩
  have hl := h.1
  by_cases hk2 : k < ls.length
  · have := h.2 k hk2
    simpa [List.getD_eq_getElem?_getD, List.getElem?_append_left, hk2, hl] using this
  · have : k = ls.length := by simp at hk; omega
    subst this
    simpa [List.getD_eq_getElem?_getD, List.getElem?_append_right, hl] using hv

/-- a tree: its head's list, its set of proofs, its next place, the place asked for -/
structure Tr (w : World) (T D base : Nat) (pf : Bool) (idx : Nat) (head : Value) (k : Stk) (pv : Value) (ps : List (List Int)) (cur : Nat) : Prop where
  blk : Blk w T 73 #[head, hv D, .int .u64 cur, .int .u64 idx, pv, .bool pf, .bool false]
  hs : Hs w D
  ne : T ≠ D
  chain : Chain w (T :: D :: pv.ownBlock.toList) k head
  own : ∃ vs, Own w base 22 1 pv ps.length vs ∧ Bss w (T :: D :: pv.ownBlock.toList) vs ps
  a1 : pv.ownBlock ≠ some T
  a2 : pv.ownBlock ≠ some D
  base : base ≤ w.heap.size

theorem wsum_len (k : Stk) : k.length ≤ wsum k := by
  induction k with
  | nil => simp [wsum]
  | cons p r ih =>
    obtain ⟨h, s⟩ := p
    have := Nat.pow_pos (n := h) (show 0 < 2 by omega)
    simp only [List.length_cons, wsum]; omega
theorem Tr.chg {w w' : World} {T D base : Nat} {pf : Bool} {idx : Nat} {head : Value} {k : Stk} {pv : Value} {ps : List (List Int)} {cur : Nat} (h : Tr w T D base pf idx head k pv ps cur) (hc : Chg [] w w') : Tr w' T D base pf idx head k pv ps cur where
  blk := h.blk.chg hc (by simp)
  hs := h.hs.chg hc (by simp)
  ne := h.ne
  chain := h.chain.chg hc (by simp)
  own := by
    obtain ⟨vs, h1, h2⟩ := h.own
    exact ⟨vs, h1.chg hc (by simp), h2.chg hc (by simp)⟩
  a1 := h.a1
  a2 := h.a2
  base := Nat.le_trans h.base hc.size

/-- the proof set has grown by one slice, and is stored back -/
theorem Tr.app {wd w1 w2 : World} {T D base : Nat} {pf : Bool} {idx : Nat} {head : Value} {k : Stk} {pv v2 sv : Value} {ps : List (List Int)} {s : List Int} {cur : Nat} {vs : List Value} (ht : Tr wd T D base pf idx head k pv ps cur)
    (hc1 : Chg [] wd w1) (hbs : Bss wd (T :: D :: pv.ownBlock.toList) vs ps) (hs : Bs wd (T :: D :: pv.ownBlock.toList) sv s) (hl : Own wd base 22 1 pv ps.length vs)
    (hown2 : Own w2 base 22 1 v2 (ps.length + 1) (vs ++ [sv])) (hg : w1.grownBy w2 pv.ownBlock) (hat : v2.ownBlock = pv.ownBlock ∨ v2.ownBlock = some w1.heap.size) :
    Tr (w2.setCell ⟨T, 4, none⟩ v2) T D base pf idx head k v2 (ps ++ [s]) cur ∧ Chg (T :: pv.ownBlock.toList) wd (w2.setCell ⟨T, 4, none⟩ v2) ∧ (v2.ownBlock = pv.ownBlock ∨ ∀ g, v2.ownBlock = some g → wd.heap.size ≤ g) := by
  have hTl := ht.blk.lt
  have hDl := ht.hs.lt
  have hs1 := hc1.size
  have hcg : Chg pv.ownBlock.toList wd w2 := (hc1.mono (by simp)).trans (Chg.of_grown (S := pv.ownBlock.toList) hg (fun g e => by simp [e]))
  have hcf : Chg (T :: pv.ownBlock.toList) wd (w2.setCell ⟨T, 4, none⟩ v2) := (hcg.mono (by simp; intro k hk; exact .inr hk)).setCell (p := ⟨T, 4, none⟩) (.inl (by simp)) _
  have hv2 : v2.ownBlock = pv.ownBlock ∨ ∀ g, v2.ownBlock = some g → wd.heap.size ≤ g := by
    rcases hat with h | h
    · exact .inl h
    · exact .inr (fun g e => by rw [h] at e; injection e with e; omega)
  have hU : ∀ g ∈ (T :: D :: pv.ownBlock.toList) ++ v2.ownBlock.toList, g ∈ (T :: D :: pv.ownBlock.toList) ∨ wd.heap.size ≤ g := by
    intro g hm
    rcases List.mem_append.1 hm with hm | hm
    · exact .inl hm
    · rcases hv2 with h | h
      · rw [h] at hm; exact .inl (by simp at hm ⊢; exact .inr (.inr hm))
      · exact .inr (h g (by simpa using hm))
  have hC : ∀ g ∈ (T :: pv.ownBlock.toList), g ∈ (T :: D :: pv.ownBlock.toList) ++ v2.ownBlock.toList ∨ wd.heap.size ≤ g := by
    intro g hm
    left
    simp at hm ⊢
    rcases hm with h | h
    · exact .inl h
    · exact .inr (.inr (.inl h))
  have hV : ∀ (ww : World), ∀ g ∈ (T :: D :: v2.ownBlock.toList), g ∈ (T :: D :: pv.ownBlock.toList) ++ v2.ownBlock.toList ∨ ww.heap.size ≤ g := by
    intro ww g hm
    left
    simp at hm ⊢
    rcases hm with h | h | h
    · exact .inl h
    · exact .inr (.inl h)
    · exact .inr (.inr (.inr h))
  have hne2 : v2.ownBlock ≠ some T := by
    rcases hat with h | h
    · rw [h]; exact ht.a1
    · rw [h]; intro e; injection e with e; omega
  refine ⟨⟨?_, ?_, ht.ne, ?_, ?_, hne2, ?_, ?_⟩, hcf, hv2⟩
  · have hb := ((ht.blk.chg hc1 (by simp)).grown hg (fun e => ht.a1 e.symm)).set_ 4 v2
    exact hb
  · refine (ht.hs.chg hcf ?_)
    simp only [List.mem_cons, not_or]
    exact ⟨fun e => ht.ne e.symm, fun hm => ht.a2 (by simpa using hm)⟩
  · exact ((ht.chain.more hU).chg hcf hC).more (hV _)
  · refine ⟨vs ++ [sv], ?_, ((Bss.snoc (hbs.more hU) (hs.more hU)).chg hcf hC).more (hV _)⟩
    rw [List.length_append]
    exact hown2.chg ((Chg.refl [T] w2).setCell (p := ⟨T, 4, none⟩) (.inl (by simp)) _) (fun g e => by simp; rintro rfl; exact hne2 e)
  · rcases hat with h | h
    · rw [h]; exact ht.a2
    · rw [h]; intro e; injection e with e; omega
  · exact Nat.le_trans ht.base hcf.size

/-- the two sub-trees ahead are joined, and the head stored -/
theorem Tr.join {wd w1 w2 : World} {T D base h g : Nat} {pf : Bool} {idx : Nat} {head nx sv : Value} {sn : List Int} {r : Stk} {k : Stk} {pv : Value} {ps : List (List Int)} {cur : Nat} (ht : Tr wd T D base pf idx head k pv ps cur)
    (hc1 : Chg [] wd w1) (hc2 : Chg [D] w1 w2) (hh : Hs w2 D) (hb : Blk w2 g 75 #[nx, .int .i64 h, sv]) (hg : w1.heap.size ≤ g) (ho : Own w2 w1.heap.size 5 1 sv 32 (vb (sha sn))) (hr : Chain wd (T :: D :: pv.ownBlock.toList) r nx) :
    Tr (w2.setCell ⟨T, 0, none⟩ (pt g)) T D base pf idx (pt g) ((h, sha sn) :: r) pv ps cur ∧ Chg [T, D] wd (w2.setCell ⟨T, 0, none⟩ (pt g)) := by
  have hTl := ht.blk.lt
  have hDl := ht.hs.lt
  have hs1 := hc1.size
  obtain ⟨vs, hown, hbs⟩ := ht.own
  have hpl := hown.lt
  have hc12 : Chg [D] wd w2 := (hc1.mono (by simp)).trans hc2
  have hcf : Chg [T, D] wd (w2.setCell ⟨T, 0, none⟩ (pt g)) := (hc12.mono (by simp)).setCell (p := ⟨T, 0, none⟩) (.inl (by simp)) _
  have hlow : ∀ x ∈ (T :: D :: pv.ownBlock.toList), x < wd.heap.size := by
    intro x hm
    simp at hm
    rcases hm with rfl | rfl | h
    · exact hTl
    · exact hDl
    · exact (hpl x h).2
  have hC : ∀ x ∈ [T, D], x ∈ (T :: D :: pv.ownBlock.toList) ∨ wd.heap.size ≤ x := by
    intro x hm; left; simp at hm ⊢
    rcases hm with h | h
    · exact .inl h
    · exact .inr (.inl h)
  have hset : Chg [T] w2 (w2.setCell ⟨T, 0, none⟩ (pt g)) := (Chg.refl [T] w2).setCell (p := ⟨T, 0, none⟩) (.inl (by simp)) _
  refine ⟨⟨?_, hh.chg hset (by simp; exact fun e => ht.ne e.symm), ht.ne, ?_, ?_, ht.a1, ht.a2, Nat.le_trans ht.base hcf.size⟩, hcf⟩
  · exact (ht.blk.chg hc12 (by simp; exact ht.ne)).set_ 0 (pt g)
  · refine ⟨g, nx, sv, rfl, fun hm => ?_, hb.chg hset (by simp; omega), ?_, sha_len _, hr.chg hcf hC⟩
    · have := hlow g hm; omega
    · exact (Bs.of_own (T :: D :: pv.ownBlock.toList) ho (sha_bytes _) (fun x hm => by have := hlow x hm; omega)).chg hset (by intro x hm; left; simp at hm ⊢; exact .inl hm)
  · refine ⟨vs, hown.chg hcf (fun x e => ?_), hbs.chg hcf hC⟩
    simp only [List.mem_cons, List.not_mem_nil, or_false, not_or]
    exact ⟨fun e' => ht.a1 (by rw [e, e']), fun e' => ht.a2 (by rw [e, e'])⟩

theorem chg_next {w wr w3 : World} {T D : Nat} {pv pv' : Value} {S' : List Nat} (hc : Chg (T :: D :: pv.ownBlock.toList) w wr) (hp : pv'.ownBlock = pv.ownBlock ∨ ∀ g, pv'.ownBlock = some g → w.heap.size ≤ g)
    (hcn : Chg S' wr w3) (hs : ∀ k ∈ S', k = T ∨ k = D ∨ pv'.ownBlock = some k) : Chg (T :: D :: pv.ownBlock.toList) w w3 := by
  refine hc.step hcn fun k hk => ?_
  rcases hs k hk with h | h | h
  · left; simp [h]
  · left; simp [h]
  · rcases hp with e | e
    · left; rw [e] at h; simp [h]
    · exact .inr (e k h)
theorem pv_next {w wr : World} {S : List Nat} {pv pv' v2 : Value} (hc : Chg S w wr) (hp : pv'.ownBlock = pv.ownBlock ∨ ∀ g, pv'.ownBlock = some g → w.heap.size ≤ g) (hn : v2.ownBlock = pv'.ownBlock ∨ ∀ g, v2.ownBlock = some g → wr.heap.size ≤ g) :
    v2.ownBlock = pv.ownBlock ∨ ∀ g, v2.ownBlock = some g → w.heap.size ≤ g := by
  rcases hn with h | h
  · rw [h]; exact hp
  · exact .inr fun g e => Nat.le_trans hc.size (h g e)

set_option maxRecDepth 20000 in
set_option maxHeartbeats 8000000 in
theorem tjoinall_any (T D base : Nat) (pf : Bool) (idx cur h : Nat) (head pv : Value) (s : List Int) (k : Stk) (ps : List (List Int)) (w : World)
    (ht : Tr w T D base pf idx head ((h, s) :: k) pv ps cur) (hw : 2 ^ h + wsum k ≤ 255) (hcur : cur ≤ 255) (hidx : idx < 256) (hps : ps.length ≤ 300) :
    Calls Tryd.prog 35 #[pt T] w fun e w' => e = .returned (.tuple #[]) ∧ ∃ head' pv', Tr w' T D base pf idx head' (joinAllP sha idx cur h s k ps).1 pv' (joinAllP sha idx cur h s k ps).2 cur ∧
      Chg (T :: D :: pv.ownBlock.toList) w w' ∧ (pv'.ownBlock = pv.ownBlock ∨ ∀ g, pv'.ownBlock = some g → w.heap.size ≤ g) := by
  obtain ⟨i0, hi0, hz0, hz1, hz2⟩ := info_parts info_u8s
  go_enter Tryd.func35, Tryd.ntmps35
  go_wp2_with fail
  go_loopg [] k.length (fun gk wr => ∃ h' head' s' k' pv' ps', k'.length = gk ∧ 2 ^ h' + wsum k' ≤ 255 ∧ ps'.length + k'.length ≤ ps.length + k.length ∧
    joinAllP sha idx cur h' s' k' ps' = joinAllP sha idx cur h s k ps ∧ Tr wr T D base pf idx head' ((h', s') :: k') pv' ps' cur ∧
      Chg (T :: D :: pv.ownBlock.toList) w wr ∧ (pv'.ownBlock = pv.ownBlock ∨ ∀ g, pv'.ownBlock = some g → w.heap.size ≤ g))
  case atStart => exact ⟨h, head, s, k, pv, ps, rfl, hw, Nat.le_refl _, rfl, ht, Chg.refl _ _, .inl rfl⟩
  case round =>
    clear ht
    obtain ⟨h1, head', s1, k', pv', ps', hk, hw1, hpl, hJ, ht, hch, hpv⟩ := hrel
    obtain ⟨g1, nx, sv1, rfl, hg1, hB1, hv1, hl1, hC⟩ := ht.chain
    obtain ⟨Ap, cp, rfl, hcp, hcm⟩ : ∃ A c, pv' = .slice A ps'.length c ∧ ps'.length ≤ c ∧ c ≤ maxLen := by
      obtain ⟨vs, hown, _⟩ := ht.own
      exact hown.form
    have hv1' := hv1
    obtain ⟨A1, c1, e1, _⟩ := hv1'
    rw [hl1] at e1
    subst e1
    have t0 : wr.cell? ⟨T, 0, none⟩ = some (pt g1) := ht.blk.cell 0
    have t1 : wr.cell? ⟨T, 1, none⟩ = some (hv D) := ht.blk.cell 1
    have t2 : wr.cell? ⟨T, 2, none⟩ = some (.int .u64 cur) := ht.blk.cell 2
    have t3 : wr.cell? ⟨T, 3, none⟩ = some (.int .u64 idx) := ht.blk.cell 3
    have t4 : wr.cell? ⟨T, 4, none⟩ = some (.slice Ap ps'.length cp) := ht.blk.cell 4
    have a0 : wr.cell? ⟨g1, 0, none⟩ = some nx := hB1.cell 0
    have a1 : wr.cell? ⟨g1, 1, none⟩ = some (.int .i64 h1) := hB1.cell 1
    have a2 : wr.cell? ⟨g1, 2, none⟩ = some (.slice A1 32 c1) := hB1.cell 2
    have hh8 : h1 < 8 := pow_lt8 (n := 255) (by omega) (by omega)
    have hpn : ps'.length ≤ 600 := by have := wsum_len k; have := Nat.pow_pos (n := h) (show 0 < 2 by omega); omega
    have HJ : Hid _ := hJ
    have HP : Hid _ := hpv
    have HK : Hid _ := hk
    have HC : Hid _ := hch
    have HT : Hid _ := ht
    have HL : Hid _ := hpl
    have HW : Hid _ := hw1
    clear hJ hpv hk hch ht hpl hw hw1
    cases k' with
    | nil =>
      have hnx : nx = .pointer none := hC
      subst hnx
      go_wp2_with fail
      go_quiet (fail)
      go_wp2_with fail
      go_end0
      have hJ := HJ.out
      simp only [joinAllP] at hJ
      rw [← hJ]
      exact ⟨rfl, _, _, HT.out.chg ((Chg.refl [] _).drewN _), HC.out.drewN _, HP.out⟩
    | cons q r =>
      obtain ⟨h2, s2⟩ := q
      obtain ⟨g2, nx2, sv2, rfl, hg2, hB2, hv2, hl2, hC2⟩ := hC
      have hv2' := hv2
      obtain ⟨A2, c2, e2, _⟩ := hv2'
      rw [hl2] at e2
      subst e2
      obtain ⟨x2, rfl⟩ := hC2.ptr
      have b0 : wr.cell? ⟨g2, 0, none⟩ = some (.pointer x2) := hB2.cell 0
      have b1 : wr.cell? ⟨g2, 1, none⟩ = some (.int .i64 h2) := hB2.cell 1
      have b2 : wr.cell? ⟨g2, 2, none⟩ = some (.slice A2 32 c2) := hB2.cell 2
      by_cases heq : h1 = h2
      · subst heq
        go_wp2_with fail
        go_quiet (fail)
        go_wp2_with fail
        have hwl : IntKind.i64.wrap ((ps'.length : Int) - 1) = (ps'.length : Int) - 1 := IntWalk.i64_in _ (by omega)
        go_quiet (fail)
        go_upto_if 45 with fail
        go_cut [] from 2 to 122 (fun wx => ∃ pv2 ps2, Tr wx T D base pf idx (pt g1) ((h1, s1) :: (h1, s2) :: r) pv2 ps2 cur ∧ Chg (T :: D :: pv.ownBlock.toList) w wx ∧ (pv2.ownBlock = pv.ownBlock ∨ ∀ g, pv2.ownBlock = some g → w.heap.size ≤ g) ∧
          ps2.length ≤ ps'.length + 1 ∧ joinAllP sha idx cur (h1 + 1) (sha (s2 ++ s1)) r ps2 = joinAllP sha idx cur h s k ps)
        case first =>
          by_cases hpe : ps'.length = h1 + 1
          · have hpe' : ((h1 : Int) == (ps'.length : Int) - 1) = true := by simp; omega
            have HPE : Hid _ := hpe
            clear hpe
            obtain ⟨M, hM⟩ : ∃ M : Int, M = 2 ^ h1 := ⟨_, rfl⟩
            have hMN : M = ((2 ^ h1 : Nat) : Int) := by rw [hM]; norm_cast
            have hp1 : 1 ≤ 2 ^ h1 := Nat.pow_pos (by omega)
            have hp2 : 2 ^ h1 ≤ 128 := by have := Nat.pow_le_pow_right (n := 2) (by omega) (show h1 ≤ 7 by omega); omega
            have hw1 : IntKind.u64.wrap (2 ^ h1) = M := by rw [← hM]; exact IntWalk.u64_in _ (by omega)
            have hq0 : cur / 2 ^ h1 ≤ cur := Nat.div_le_self _ _
            have hq1 : cur / 2 ^ h1 * 2 ^ h1 ≤ cur := Nat.div_mul_le_self _ _
            have hq : IntKind.u64.wrap ((cur : Int) / M) = ((cur / 2 ^ h1 : Nat) : Int) := by
              rw [hMN, ← Int.natCast_ediv]; exact IntWalk.u64_in _ ⟨Int.le_trans (by decide) (Int.natCast_nonneg _), Int.le_trans (Int.ofNat_le.2 (Nat.le_trans hq0 hcur)) (by decide)⟩
            have hr : IntKind.u64.wrap (((cur / 2 ^ h1 : Nat) : Int) * M) = ((cur / 2 ^ h1 * 2 ^ h1 : Nat) : Int) := by
              rw [hMN, ← Int.natCast_mul]; exact IntWalk.u64_in _ ⟨Int.le_trans (by decide) (Int.natCast_nonneg _), Int.le_trans (Int.ofNat_le.2 (Nat.le_trans hq1 hcur)) (by decide)⟩
            have hM0 : ¬ M = 0 := by rw [hMN]; omega
            generalize hRe : cur / 2 ^ h1 * 2 ^ h1 = R at hr hq1
            generalize hQe : cur / 2 ^ h1 = Qq at hr hq
            have HRe : Hid _ := hRe
            clear hM hMN hp1 hp2 hq0 hRe hQe
            by_cases hid : idx < R
            · have hidI : (idx : Int) < (R : Int) := by omega
              go_wp2_with fail
              obtain ⟨vs, hown, hbs⟩ := HT.out.own
              have htl : T < wr.heap.size := HT.out.blk.lt
              have hg1l := hB1.lt
              have hb0 := HT.out.base
              have HB : Hid (Bss wr (T :: D :: (Value.slice Ap ps'.length cp).ownBlock.toList) vs ps') := hbs
              have HO : Hid (Own wr base 22 1 (.slice Ap ps'.length cp) ps'.length vs) := hown
              have HV1 : Hid (Bs wr (T :: D :: (Value.slice Ap ps'.length cp).ownBlock.toList) (.slice A1 32 c1) s1) := hv1
              have HV2 : Hid (Bs wr (T :: D :: (Value.slice Ap ps'.length cp).ownBlock.toList) (.slice A2 32 c2) s2) := hv2
              have q4 : ∀ (n : Nat) (o : Obj), ((wr.drewN n).alloc o).cell? ⟨T, 4, none⟩ = some (.slice Ap ps'.length cp) := fun n o => ((HT.out.blk.drewN n).alloc o).cell 4
              clear hbs hv1 hv2 hown
              go_region_law (refine step_append_mm _ (by rfl) _ _ _ (by rfl) base 22 i0 _ 1 24 Tryd.underlying24 hi0 hz0 hz1 hz2 rfl (by omega) (.slice Ap ps'.length cp) ps'.length vs (by rfl) ((HO.out.drewN _).alloc _) (some ⟨wr.heap.size, 0, none⟩) 1 1 [.slice A1 32 c1] (by rfl) (Rd.of_blk (Blk.new _ _ _) rfl rfl (Nat.le_refl _)) (by simp [Value.oneCell']) (by simp only [maxLen]; omega) (by omega) (by simp; omega) ?_; intro v2 w2 hown2 hg2 hat2; have hbT := ((HT.out.blk.drewN _).alloc _).grown hg2 (fun e => HT.out.a1 e.symm); have f4 : w2.cell? ⟨T, 4, none⟩ = some (.slice Ap ps'.length cp) := hbT.cell 4; have z4 : w2.frozen? ⟨T, 4, none⟩ = false := hbT.frozen 4; obtain ⟨Av, cv, hve, _⟩ := hown2.form; subst hve; clear hbT)
              all_goals
                obtain ⟨htn, hcn, hvn⟩ := Tr.app (s := s1) HT.out (((Chg.refl [] wr).drewN _).alloc _) HB.out HV1.out HO.out hown2 hg2 hat2
                go_wp2_with fail
                go_meet
                have hJ := HJ.out
                simp only [joinAllP, if_true, if_pos HPE.out, HRe.out, if_pos hid] at hJ
                exact ⟨_, _, htn, chg_next HC.out HP.out hcn (fun k hk => by
                  rcases List.mem_cons.1 hk with h | h
                  · exact .inl h
                  · exact .inr (.inr (by simpa using h))), pv_next HC.out HP.out hvn, by simp, hJ⟩
            · have hidI : ¬ (idx : Int) < (R : Int) := by omega
              go_wp2_with fail
              obtain ⟨vs, hown, hbs⟩ := HT.out.own
              have htl : T < wr.heap.size := HT.out.blk.lt
              have hg1l := hB1.lt
              have hb0 := HT.out.base
              have HB : Hid (Bss wr (T :: D :: (Value.slice Ap ps'.length cp).ownBlock.toList) vs ps') := hbs
              have HO : Hid (Own wr base 22 1 (.slice Ap ps'.length cp) ps'.length vs) := hown
              have HV1 : Hid (Bs wr (T :: D :: (Value.slice Ap ps'.length cp).ownBlock.toList) (.slice A1 32 c1) s1) := hv1
              have HV2 : Hid (Bs wr (T :: D :: (Value.slice Ap ps'.length cp).ownBlock.toList) (.slice A2 32 c2) s2) := hv2
              have q4 : ∀ (n : Nat) (o : Obj), ((wr.drewN n).alloc o).cell? ⟨T, 4, none⟩ = some (.slice Ap ps'.length cp) := fun n o => ((HT.out.blk.drewN n).alloc o).cell 4
              clear hbs hv1 hv2 hown
              go_region_law (refine step_append_mm _ (by rfl) _ _ _ (by rfl) base 22 i0 _ 1 24 Tryd.underlying24 hi0 hz0 hz1 hz2 rfl (by omega) (.slice Ap ps'.length cp) ps'.length vs (by rfl) ((HO.out.drewN _).alloc _) (some ⟨wr.heap.size, 0, none⟩) 1 1 [.slice A2 32 c2] (by rfl) (Rd.of_blk (Blk.new _ _ _) rfl rfl (Nat.le_refl _)) (by simp [Value.oneCell']) (by simp only [maxLen]; omega) (by omega) (by simp; omega) ?_; intro v2 w2 hown2 hg2 hat2; have hbT := ((HT.out.blk.drewN _).alloc _).grown hg2 (fun e => HT.out.a1 e.symm); have f4 : w2.cell? ⟨T, 4, none⟩ = some (.slice Ap ps'.length cp) := hbT.cell 4; have z4 : w2.frozen? ⟨T, 4, none⟩ = false := hbT.frozen 4; obtain ⟨Av, cv, hve, _⟩ := hown2.form; subst hve; clear hbT)
              all_goals
                obtain ⟨htn, hcn, hvn⟩ := Tr.app (s := s2) HT.out (((Chg.refl [] wr).drewN _).alloc _) HB.out HV2.out HO.out hown2 hg2 hat2
                go_wp2_with fail
                go_meet
                have hJ := HJ.out
                simp only [joinAllP, if_true, if_pos HPE.out, HRe.out, if_neg hid] at hJ
                exact ⟨_, _, htn, chg_next HC.out HP.out hcn (fun k hk => by
                  rcases List.mem_cons.1 hk with h | h
                  · exact .inl h
                  · exact .inr (.inr (by simpa using h))), pv_next HC.out HP.out hvn, by simp, hJ⟩
          · have hpe' : ((h1 : Int) == (ps'.length : Int) - 1) = false := by simp; omega
            go_wp2_with fail
            go_meet
            have hJ := HJ.out
            simp only [joinAllP, if_true, if_neg hpe] at hJ
            exact ⟨_, _, HT.out.chg (((Chg.refl [] _).drewN _).drewN _), (HC.out.drewN _).drewN _, HP.out, by omega, hJ⟩
        case rest =>
          obtain ⟨pv2, ps2, htn, hcn, hpn2, hpl2, hJn⟩ := hcut
          clear t0 t1 t2 t3 t4 a0 a1 a2 b0 b1 b2 hB1 hB2 hv1 hv2 hC2 hg1 hg2 hl1 hl2 HT HJ HC HP hwl
          obtain ⟨g1', nx', sv1', e1, hg1, hB1, hv1, hl1, g2', nx2', sv2', e2, hg2, hB2, hv2, hl2, hC2⟩ := htn.chain
          obtain rfl : g1 = g1' := by simpa [pt] using e1
          subst e2
          obtain ⟨x2', rfl⟩ := hC2.ptr
          have hD : ∀ k ∈ [D], k ∈ (T :: D :: pv2.ownBlock.toList) ∨ wc.heap.size ≤ k := by intro k hk; left; simp at hk; simp [hk]
          have hgT : g1 ≠ T := fun e => hg1 (by simp [e])
          have hcs := tjoin_any D g2' g1 x2' (.pointer x2') (pt g2') sv2' sv1' h1 h1 s2 s1 wc.drew (htn.hs) hB2 hB1 (fun e => hg2 (by simp [e])) (fun e => hg1 (by simp [e])) (hv2.more hD) (hv1.more hD) (by omega) (by omega) (by omega) rfl
          have t0 : wc.cell? ⟨T, 0, none⟩ = some (pt g1) := htn.blk.cell 0
          have t1 : wc.cell? ⟨T, 1, none⟩ = some (hv D) := htn.blk.cell 1
          have a0 : wc.cell? ⟨g1, 0, none⟩ = some (pt g2') := hB1.cell 0
          have htl := htn.blk.lt
          have hg1l := hB1.lt
          have hTD := htn.ne
          have hg1D : g1 ≠ D := fun e => hg1 (by simp [e])
          have HTN : Hid (Tr wc T D base pf idx (pt g1) ((h1, s1) :: (h1, s2) :: r) pv2 ps2 cur) := htn
          have HB2 : Hid (Blk wc g2' 75 #[.pointer x2', .int .i64 h1, sv2']) := hB2
          have HC2 : Hid (Chain wc (T :: D :: pv2.ownBlock.toList) r (.pointer x2')) := hC2
          have HJ : Hid _ := hJn
          have HC : Hid _ := hcn
          have HP : Hid _ := hpn2
          clear htn hB1 hB2 hv1 hv2 hC2 hJn hcn hpn2 hg1 hg2 e1 hD
          go_wp2_with fail
          go_region_with ((first | (go_at_call 36; refine hcs.mono ?_; rintro e w7 ⟨g, sv, rfl, hg7, hb7, ho7, hc7, hh7⟩; have f0 : w7.cell? ⟨T, 0, none⟩ = some (pt g1) := (HTN.out.blk.drew.chg hc7 (by simp; omega)).cell 0; have z0 : w7.frozen? ⟨T, 0, none⟩ = false := (HTN.out.blk.drew.chg hc7 (by simp; omega)).frozen 0; have f1 : w7.cell? ⟨T, 1, none⟩ = some (hv D) := (HTN.out.blk.drew.chg hc7 (by simp; omega)).cell 1; have fa : w7.cell? ⟨g1, 0, none⟩ = some (pt g2') := (hc7.cell (p := ⟨g1, 0, none⟩) hg1l (by simp; omega)).trans a0)))
          all_goals
            obtain ⟨htz, hcz⟩ := Tr.join (sn := s2 ++ s1) HTN.out ((Chg.refl [] wc).drew) hc7 hh7 (h := h1 + 1) (by exact_mod_cast hb7) hg7 ho7 HC2.out
            have hkk := HK.out
            have hww := HW.out
            have hll := HL.out
            go_wp2_with fail
            go_roundg (gk - 1)
            case measure => simp at hkk; omega
            case rel =>
              refine ⟨h1 + 1, _, _, r, pv2, ps2, by simp at hkk; omega, ?_, ?_, HJ.out, htz, chg_next HC.out HP.out hcz (fun k hk => by simp at hk; rcases hk with h | h <;> simp [h]), HP.out⟩
              · simp only [wsum] at hww; rw [Nat.pow_succ]; omega
              · simp at hll; omega
      · have hne : ((h1 : Int) == (h2 : Int)) = false := by simp; omega
        go_wp2_with fail
        go_quiet (fail)
        go_wp2_with fail
        go_end0
        have hJ := HJ.out
        simp only [joinAllP, if_neg heq] at hJ
        rw [← hJ]
        exact ⟨rfl, _, _, HT.out.chg ((Chg.refl [] _).drewN _), HC.out.drewN _, HP.out⟩
end Go.Proofs.YtcpeldnikloebaaDoor
