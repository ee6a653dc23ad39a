/- The walk of the tree's Prove. -/
import Derived.Test.YtcpeldnikloebaaDoorTrR
import Derived.Deep.CutBlock
set_option linter.unusedVariables false
set_option linter.unusedSimpArgs false
namespace Go.Proofs.YtcpeldnikloebaaDoor
open Go.RowKit Go.Mm Go.Sha Merk

theorem collapse_len (H : List Int → List Int) (L : Nat) (k : Stk) : ∀ c, (collapse H L c k).2.length ≤ k.length := by
  induction k with
  | nil => intro c; simp [collapse]
  | cons p r ih =>
    obtain ⟨h', s'⟩ := p
    intro c
    unfold collapse
    split
    · exact Nat.le_trans (ih _) (by simp)
    · simp
theorem results_tmp4 {fn : Func} {t u v x : Tmp} (h : fn.results = #[.tmp t, .tmp u, .tmp v, .tmp x]) (tmps : Array Value) (P : Program) (w : World) :
    (results fn tmps).run P w = .ok (.tuple #[tmps.getD t undef, tmps.getD u undef, tmps.getD v undef, tmps.getD x undef]) w := by
  simp [results, h]
/-- Prove on its way: the tree, the node at hand, the proofs so far -/
structure Pv (w0 w : World) (T D base : Nat) (pv0 : Value) (head : Value) (k : Stk) (idx cur : Nat) (pv : Value) (ps : List (List Int)) : Prop where
  blk : ∃ pv', Blk w T 73 #[head, hv D, .int .u64 cur, .int .u64 idx, pv', .bool true, .bool false]
  hs : Hs w D
  ne : T ≠ D
  tc : Tc w T D (T :: D :: (pv0.ownBlock.toList ++ pv.ownBlock.toList)) head k
  own : ∃ vs, Own w base 22 1 pv ps.length vs ∧ Bss w (T :: D :: (pv0.ownBlock.toList ++ pv.ownBlock.toList)) vs ps
  a1 : pv.ownBlock ≠ some T
  a2 : pv.ownBlock ≠ some D
  base : base ≤ w.heap.size
  at0 : pv.ownBlock = pv0.ownBlock ∨ ∀ g, pv.ownBlock = some g → w0.heap.size ≤ g
  chg : Chg (D :: pv0.ownBlock.toList) w0 w

theorem Pv.app {w0 w w1 w2 : World} {T D base : Nat} {pv0 pv v2 sv : Value} {head c : Value} {k kk : Stk} {idx cur : Nat} {ps : List (List Int)} {s : List Int} {vs : List Value} (hp : Pv w0 w T D base pv0 head k idx cur pv ps)
    (hc1 : Chg [] w w1) (hbs : Bss w (T :: D :: (pv0.ownBlock.toList ++ pv.ownBlock.toList)) vs ps) (hs : Bs w (T :: D :: (pv0.ownBlock.toList ++ pv.ownBlock.toList)) sv s) (hC : Chain w (T :: D :: (pv0.ownBlock.toList ++ pv.ownBlock.toList)) kk c)
    (hown2 : Own w2 base 22 1 v2 (ps.length + 1) (vs ++ [sv])) (hg : w1.grownBy w2 pv.ownBlock) (hat : v2.ownBlock = pv.ownBlock ∨ v2.ownBlock = some w1.heap.size) :
    Pv w0 w2 T D base pv0 head k idx cur v2 (ps ++ [s]) ∧ Chain w2 (T :: D :: (pv0.ownBlock.toList ++ v2.ownBlock.toList)) kk c := by
  have hs1 := hc1.size
  have hTl : T < w.heap.size := hp.tc.low T (by simp)
  have hDl := hp.hs.lt
  have hcg : Chg pv.ownBlock.toList w w2 := (hc1.mono (by simp)).trans (Chg.of_grown (S := pv.ownBlock.toList) hg (fun g e => by simp [e]))
  have hv2 : v2.ownBlock = pv.ownBlock ∨ ∀ g, v2.ownBlock = some g → w.heap.size ≤ g := by
    rcases hat with h | h
    · exact .inl h
    · exact .inr (fun g e => by rw [h] at e; injection e with e; omega)
  have hU : ∀ g ∈ (T :: D :: (pv0.ownBlock.toList ++ pv.ownBlock.toList)) ++ v2.ownBlock.toList, g ∈ (T :: D :: (pv0.ownBlock.toList ++ pv.ownBlock.toList)) ∨ w.heap.size ≤ g := by
    intro g hm
    rcases List.mem_append.1 hm with hm | hm
    · exact .inl hm
    · rcases hv2 with h | h
      · rw [h] at hm; exact .inl (by simp at hm ⊢; exact .inr (.inr (.inr hm)))
      · exact .inr (h g (by simpa using hm))
  have hCC : ∀ g ∈ pv.ownBlock.toList, g ∈ (T :: D :: (pv0.ownBlock.toList ++ pv.ownBlock.toList)) ++ v2.ownBlock.toList ∨ w.heap.size ≤ g := by
    intro g hm; left; simp at hm ⊢; simp [hm]
  have hV : ∀ (ww : World), ∀ g ∈ (T :: D :: (pv0.ownBlock.toList ++ v2.ownBlock.toList)), g ∈ (T :: D :: (pv0.ownBlock.toList ++ pv.ownBlock.toList)) ++ v2.ownBlock.toList ∨ ww.heap.size ≤ g := by
    intro ww g hm; left; simp at hm ⊢
    rcases hm with h | h | h | h <;> simp [h]
  have hT : T ∉ pv.ownBlock.toList := fun hm => hp.a1 (by simpa using hm)
  have hD : D ∉ pv.ownBlock.toList := fun hm => hp.a2 (by simpa using hm)
  obtain ⟨pv', hblk⟩ := hp.blk
  have hblk2 := hblk.chg hcg hT
  have hat2 : v2.ownBlock = pv0.ownBlock ∨ ∀ g, v2.ownBlock = some g → w0.heap.size ≤ g := by
    rcases hv2 with h | h
    · rw [h]; exact hp.at0
    · exact .inr fun g e => Nat.le_trans hp.chg.size (h g e)
  refine ⟨⟨⟨pv', hblk2⟩, hp.hs.chg hcg hD, hp.ne, ⟨⟨_, _, _, _, hblk2⟩, hp.hs.chg hcg hD, hp.ne, ((hp.tc.chain.more hU).chg hcg hCC).more (hV _), by simp, by simp, ?_⟩, ⟨vs ++ [sv], ?_, ((Bss.snoc (hbs.more hU) (hs.more hU)).chg hcg hCC).more (hV _)⟩, ?_, ?_, Nat.le_trans hp.base hcg.size, hat2, ?_⟩, ((hC.more hU).chg hcg hCC).more (hV _)⟩
  · intro y hm
    have hlo := hp.tc.low
    simp at hm
    rcases hm with rfl | rfl | h | h
    · have := hcg.size; omega
    · have := hcg.size; omega
    · have := hlo y (by simp [h]); have := hcg.size; omega
    · exact (hown2.lt y h).2
  · rw [List.length_append]; exact hown2
  · rcases hv2 with h | h
    · rw [h]; exact hp.a1
    · exact fun e => by have := h T e; omega
  · rcases hv2 with h | h
    · rw [h]; exact hp.a2
    · exact fun e => by have := h D e; omega
  · refine hp.chg.step hcg (fun g hm => ?_)
    rcases hp.at0 with h | h
    · left; rw [h] at hm; simp at hm ⊢; exact .inr hm
    · exact .inr (h g (by simpa using hm))

theorem Pv.of {w0 w : World} {T D base : Nat} {head : Value} {k : Stk} {idx cur : Nat} {pv : Value} {ps : List (List Int)} (h : Tr w T D base true idx head k pv ps cur) (hc : Chg [D] w0 w) : Pv w0 w T D base pv head k idx cur pv ps := by
  have hm : ∀ y ∈ (T :: D :: (pv.ownBlock.toList ++ pv.ownBlock.toList)), y ∈ (T :: D :: pv.ownBlock.toList) ∨ w.heap.size ≤ y := by intro y hm; left; simpa using hm
  have htc := Tc.of h
  obtain ⟨vs, hown, hbs⟩ := h.own
  exact ⟨⟨_, h.blk⟩, h.hs, h.ne, ⟨htc.blk, h.hs, h.ne, h.chain.more hm, by simp, by simp, fun y hy => htc.low y (by simpa using hy)⟩, ⟨vs, hown, hbs.more hm⟩, h.a1, h.a2, h.base, .inl rfl, hc.mono (by simp)⟩

set_option maxRecDepth 20000 in
set_option maxHeartbeats 8000000 in
theorem tprove_any (T D base : Nat) (idx cur : Nat) (head pv : Value) (k : Stk) (ps : List (List Int)) (w : World)
    (ht : Tr w T D base true idx head k pv ps cur) (hw : wsum k ≤ 250) (hk : k ≠ []) (hps : 0 < ps.length) (hps2 : ps.length ≤ 300) :
    Calls Tryd.prog 24 #[pt T] w fun e w' => ∃ rv pv' vs', e = .returned (.tuple #[rv, pv', .int .u64 idx, .int .u64 cur]) ∧ Own w' w.heap.size 5 1 rv 32 (vb (rootOf sha k)) ∧
      Own w' base 22 1 pv' (prove sha ps k).length vs' ∧ Bss w' [] vs' (prove sha ps k) ∧ Chg (D :: pv.ownBlock.toList) w w' ∧ Hs w' D := by
  obtain ⟨i0, hi0, hz0, hz1, hz2⟩ := info_parts info_u8s
  have hwm := wsum_mem hw
  have hwl := wsum_len k
  cases k with
  | nil => exact absurd rfl hk
  | cons q k0 =>
    obtain ⟨h0, s0⟩ := q
    obtain ⟨g0, nx0, sv0, rfl, hg0, hB0, hv0, hl0, hC0⟩ := ht.chain
    obtain ⟨Ap, cp, rfl, hcp, hcm⟩ : ∃ A c, pv = .slice A ps.length c ∧ ps.length ≤ c ∧ c ≤ maxLen := by
      obtain ⟨vs, hown, _⟩ := ht.own
      exact hown.form
    have t0 : w.cell? ⟨T, 0, none⟩ = some (pt g0) := ht.blk.cell 0
    have t4 : w.cell? ⟨T, 4, none⟩ = some (.slice Ap ps.length cp) := ht.blk.cell 4
    have t5 : w.cell? ⟨T, 5, none⟩ = some (.bool true) := ht.blk.cell 5
    have HT : Hid (Tr w T D base true idx (pt g0) ((h0, s0) :: k0) (.slice Ap ps.length cp) ps cur) := ht
    have HW : Hid (wsum ((h0, s0) :: k0) ≤ 250) := hw
    have hh0 : h0 < 8 := pow_lt8 (n := 250) (hwm (h0, s0) (by simp)) (by omega)
    have hhk : ∀ q ∈ k0, q.1 < 8 := fun q hq => pow_lt8 (n := 250) (hwm q (by simp [hq])) (by omega)
    have hp0 : ((ps.length : Int) == 0) = false := by simp; intro e; rw [e] at hps; simp at hps
    have HH : Hid (∀ q ∈ k0, q.1 < 8) := hhk
    have HB : Hid (Blk w g0 75 #[nx0, .int .i64 h0, sv0]) := hB0
    have HV : Hid (Bs w (T :: D :: (Value.slice Ap ps.length cp).ownBlock.toList) sv0 s0) := hv0
    have HC : Hid (Chain w (T :: D :: (Value.slice Ap ps.length cp).ownBlock.toList) k0 nx0) := hC0
    have HG : Hid (g0 ∉ (T :: D :: (Value.slice Ap ps.length cp).ownBlock.toList)) := hg0
    clear ht hw hwm hk hhk hB0 hv0 hC0 hg0
    go_enter Tryd.func24, Tryd.ntmps24
    go_upto_block 0 with fail
    have HL1 : Hid (∃ g nx sv h s k', pt g0 = pt g ∧ g ∉ (T :: D :: (Value.slice Ap ps.length cp).ownBlock.toList) ∧ Blk w g 75 #[nx, .int .i64 ((h : Nat) : Int), sv] ∧ Bs w (T :: D :: (Value.slice Ap ps.length cp).ownBlock.toList) sv s ∧ s.length = 32 ∧ h < 100 ∧
      Chain w (T :: D :: (Value.slice Ap ps.length cp).ownBlock.toList) k' nx ∧ k'.length = k0.length ∧ (∀ q ∈ k', q.1 < 8) ∧ collapse sha ps.length s k' = collapse sha ps.length s0 k0 ∧ Tr w T D base true idx (pt g0) ((h0, s0) :: k0) (.slice Ap ps.length cp) ps cur ∧ Chg [D] w w) :=
      ⟨g0, nx0, sv0, h0, s0, k0, rfl, HG.out, HB.out, HV.out, hl0, by omega, HC.out, rfl, HH.out, rfl, HT.out, Chg.refl _ _⟩
    clear HB HV HC HG HH t0 t4 t5 hp0
    go_cut [6] from 44 to 71 (fun v wr => ∃ g nx sv h s k', v = pt g ∧ g ∉ (T :: D :: (Value.slice Ap ps.length cp).ownBlock.toList) ∧ Blk wr g 75 #[nx, .int .i64 ((h : Nat) : Int), sv] ∧ Bs wr (T :: D :: (Value.slice Ap ps.length cp).ownBlock.toList) sv s ∧ s.length = 32 ∧ h < 100 ∧
      Chain wr (T :: D :: (Value.slice Ap ps.length cp).ownBlock.toList) k' nx ∧ (∀ q ∈ k', q.1 < 8) ∧ collapse sha ps.length s0 k0 = (s, k') ∧ Tr wr T D base true idx (pt g0) ((h0, s0) :: k0) (.slice Ap ps.length cp) ps cur ∧ Chg [D] w wr)
    case first =>
      go_wp2_with fail
      go_loopg [6] k0.length (fun gk v wr => ∃ g nx sv h s k', v = pt g ∧ g ∉ (T :: D :: (Value.slice Ap ps.length cp).ownBlock.toList) ∧ Blk wr g 75 #[nx, .int .i64 ((h : Nat) : Int), sv] ∧ Bs wr (T :: D :: (Value.slice Ap ps.length cp).ownBlock.toList) sv s ∧ s.length = 32 ∧ h < 100 ∧
        Chain wr (T :: D :: (Value.slice Ap ps.length cp).ownBlock.toList) k' nx ∧ k'.length = gk ∧ (∀ q ∈ k', q.1 < 8) ∧ collapse sha ps.length s k' = collapse sha ps.length s0 k0 ∧ Tr wr T D base true idx (pt g0) ((h0, s0) :: k0) (.slice Ap ps.length cp) ps cur ∧ Chg [D] w wr)
      case atStart => exact HL1.out
      case round =>
        clear HL1
        obtain ⟨g, nx, sv, h, s, k', rfl, hg, hB, hvv, hl, hh, hC, hkl, hhk, hR, ht, hch⟩ := hrel
        have hv' := hvv
        obtain ⟨A1, c1, e1, _⟩ := hv'
        rw [hl] at e1
        subst e1
        have a0 : wr.cell? ⟨g, 0, none⟩ = some nx := hB.cell 0
        have t1 : wr.cell? ⟨T, 1, none⟩ = some (hv D) := ht.blk.cell 1
        have hgl := hB.lt
        have htl := ht.blk.lt
        have hTD := ht.ne
        have hgT : g ≠ T := fun e => hg (by simp [e])
        have hgD : g ≠ D := fun e => hg (by simp [e])
        have HB : Hid (Blk wr g 75 #[nx, .int .i64 h, .slice A1 32 c1]) := hB
        have HV : Hid (Bs wr (T :: D :: (Value.slice Ap ps.length cp).ownBlock.toList) (.slice A1 32 c1) s) := hvv
        have HR : Hid _ := hR
        have HTr : Hid (Tr wr T D base true idx (pt g0) ((h0, s0) :: k0) (.slice Ap ps.length cp) ps cur) := ht
        have HCH : Hid (Chg [D] w wr) := hch
        have HK : Hid _ := hkl
        have HH : Hid (∀ q ∈ k', q.1 < 8) := hhk
        have HG : Hid (g ∉ (T :: D :: (Value.slice Ap ps.length cp).ownBlock.toList)) := hg
        clear hB hvv hR ht hch hkl hhk hg
        have hwl2 : IntKind.i64.wrap ((ps.length : Int) - 1) = (ps.length : Int) - 1 := IntWalk.i64_in _ (by omega)
        cases k' with
        | nil =>
          have hnx : nx = .pointer none := hC
          subst hnx
          go_wp2_with fail
          go_meet
          exact ⟨g, .pointer none, _, h, s, [], rfl, HG.out, HB.out, HV.out, hl, hh, rfl, HH.out, HR.out.symm, HTr.out, HCH.out⟩
        | cons q r =>
          obtain ⟨h2, s2⟩ := q
          have hC' := hC
          obtain ⟨g2, nx2, sv2, rfl, hg2, hB2, hv2, hl2, hC2⟩ := hC'
          obtain ⟨x2, rfl⟩ := hC2.ptr
          have hh2 : h2 < 8 := HH.out (h2, s2) (by simp)
          have b1 : wr.cell? ⟨g2, 1, none⟩ = some (.int .i64 h2) := hB2.cell 1
          have HCC : Hid (Chain wr (T :: D :: (Value.slice Ap ps.length cp).ownBlock.toList) ((h2, s2) :: r) (pt g2)) := hC
          by_cases hlt : h2 + 1 < ps.length
          · have hD : ∀ y ∈ [D], y ∈ (T :: D :: (Value.slice Ap ps.length cp).ownBlock.toList) ∨ wr.heap.size ≤ y := by intro y hm; left; simp at hm; simp [hm]
            have hcs := tjoin_any D g2 g x2 (.pointer x2) (pt g2) sv2 (.slice A1 32 c1) h2 h s2 s wr.drew HTr.out.hs hB2 HB.out (fun e => hg2 (by simp [e])) hgD (hv2.more hD) (HV.out.more hD) (by omega) (by omega) (by omega) rfl
            have HC2 : Hid (Chain wr (T :: D :: (Value.slice Ap ps.length cp).ownBlock.toList) r (.pointer x2)) := hC2
            clear hB2 hv2 hC2 hg2 hC
            have hltI : (h2 : Int) < (ps.length : Int) - 1 := by omega
            go_wp2_with fail
            go_region_held3 (fun w' => w'.cell? ⟨T, 1, none⟩ = some (hv D) ∧ w'.cell? ⟨g, 0, none⟩ = some (pt g2))
              (first
                | go_keep
                | exact ⟨f1, fa⟩)
              ((first | (go_at_call 36; refine hcs.mono ?_; rintro e w7 ⟨gn, svn, rfl, hg7, hb7, ho7, hc7, hh7⟩; have f1 : w7.cell? ⟨T, 1, none⟩ = some (hv D) := (hc7.cell (p := ⟨T, 1, none⟩) htl (by simp; omega)).trans t1; have fa : w7.cell? ⟨g, 0, none⟩ = some (pt g2) := (hc7.cell (p := ⟨g, 0, none⟩) hgl (by simp; omega)).trans a0)))
            rename (World.cell? _ _ = _ ∧ _) => hHeld
            clear hHeld f1 fa
            have hR := HR.out
            have hkk := HK.out
            have hc7' : Chg [D] wr w7 := ⟨hc7.os, hc7.tape, hc7.output, hc7.size, hc7.block⟩
            have htn := HTr.out.dig hc7' hh7
            have hlow := (Tc.of HTr.out).low
            have hin : ∀ y ∈ [D], y ∈ (T :: D :: (Value.slice Ap ps.length cp).ownBlock.toList) ∨ wr.heap.size ≤ y := by intro y hm; left; simp at hm; simp [hm]
            go_wp2_with fail
            go_roundg (gk - 1)
            case measure => simp at hkk; omega
            case rel =>
              simp only [collapse, if_pos hlt] at hR
              exact ⟨gn, .pointer x2, svn, h2 + 1, sha (s2 ++ s), r, rfl, fun hm => by have := hlow gn hm; have h3 : wr.heap.size ≤ gn := hg7; omega, by exact_mod_cast hb7, Bs.of_own _ ho7 (sha_bytes _) hlow, sha_len _, by omega, HC2.out.chg hc7' hin,
                by simp at hkk; omega, fun q hq => HH.out q (by simp [hq]), hR, htn, HCH.out.trans hc7'⟩
          · have hltI : ¬ (h2 : Int) < (ps.length : Int) - 1 := by omega
            clear hB2 hv2 hC2 hg2 hC
            go_wp2_with fail
            go_meet
            have hR := HR.out
            simp only [collapse, if_neg hlt] at hR
            exact ⟨g, pt g2, _, h, s, (h2, s2) :: r, rfl, HG.out, HB.out, HV.out, hl, hh, HCC.out, HH.out, hR.symm, HTr.out, HCH.out⟩
    case rest =>
      obtain ⟨g, nx, sv, h, s, k', rfl, hg, hB, hvv, hl, hh, hC, hhk, hR, ht, hch⟩ := hcut
      have hv' := hvv
      obtain ⟨A1, c1, e1, _⟩ := hv'
      rw [hl] at e1
      subst e1
      have a0 : wc.cell? ⟨g, 0, none⟩ = some nx := hB.cell 0
      have a2 : wc.cell? ⟨g, 2, none⟩ = some (.slice A1 32 c1) := hB.cell 2
      have hwl2 : IntKind.i64.wrap ((ps.length : Int) - 1) = (ps.length : Int) - 1 := IntWalk.i64_in _ (by omega)
      have hPr : prove sha ps ((h0, s0) :: k0) = finish ps (s, k') := by
        rw [← hR]
        show (if ps.length = 0 then [] else _) = _
        rw [if_neg (by omega)]
      have HPV := Pv.of ht hch
      have HPr : Hid _ := hPr
      have HV : Hid (Bs wc (T :: D :: (Value.slice Ap ps.length cp).ownBlock.toList) (.slice A1 32 c1) s) := hvv
      have hm2 : ∀ y ∈ (T :: D :: ((Value.slice Ap ps.length cp).ownBlock.toList ++ (Value.slice Ap ps.length cp).ownBlock.toList)), y ∈ (T :: D :: (Value.slice Ap ps.length cp).ownBlock.toList) ∨ wc.heap.size ≤ y := by intro y hm; left; simpa using hm
      have HP : Hid (Pv w wc T D base (.slice Ap ps.length cp) (pt g0) ((h0, s0) :: k0) idx cur (.slice Ap ps.length cp) ps) := HPV
      have HC : Hid (Chain wc (T :: D :: (Value.slice Ap ps.length cp).ownBlock.toList) k' nx) := hC
      have HRR : Hid (collapse sha ps.length s0 k0 = (s, k')) := hR
      have HN1 : Hid (∀ x, (Value.slice Ap ps.length cp).ownBlock = some x → g ≠ x) := fun x e e' => hg (by rw [e']; simp [e])
      have hgl1 := hB.lt
      clear hB hvv hg hR ht hch hPr HPV HL1 HT
      cases k' with
      | nil =>
        have hnx : nx = .pointer none := hC
        subst hnx
        have HS0 : Hid (∃ A1 c1 ps1 kk, Value.slice Ap ps.length cp = .slice A1 (List.length ps1) c1 ∧ Pv w wc T D base (.slice Ap ps.length cp) (pt g0) ((h0, s0) :: k0) idx cur (.slice A1 ps1.length c1) ps1 ∧
            Chain wc (T :: D :: ((Value.slice Ap ps.length cp).ownBlock.toList ++ (Value.slice A1 ps1.length c1).ownBlock.toList)) kk (.pointer none) ∧ kk.length = 0 ∧ ps1.length + kk.length ≤ 900 ∧ ps1 ++ kk.map (·.2) = prove sha ps ((h0, s0) :: k0)) :=
          ⟨Ap, cp, ps, [], rfl, HP.out, rfl, rfl, by simp; omega, by rw [HPr.out]; simp [finish]⟩
        go_wp2_with fail
        go_loopg [3, 6] 0 (fun gk v3 v6 wr => ∃ A1 c1 ps1 kk, v3 = .slice A1 (List.length ps1) c1 ∧ Pv w wr T D base (.slice Ap ps.length cp) (pt g0) ((h0, s0) :: k0) idx cur (.slice A1 ps1.length c1) ps1 ∧
          Chain wr (T :: D :: ((Value.slice Ap ps.length cp).ownBlock.toList ++ (Value.slice A1 ps1.length c1).ownBlock.toList)) kk v6 ∧ kk.length = gk ∧ ps1.length + kk.length ≤ 900 ∧ ps1 ++ kk.map (·.2) = prove sha ps ((h0, s0) :: k0))
        case atStart => exact HS0.out
        case round =>
          obtain ⟨A2, c2, ps1, kk, rfl, hPV, hC, hkl, hpl, hE⟩ := hrel
          have HPV : Hid (Pv w wr T D base (.slice Ap ps.length cp) (pt g0) ((h0, s0) :: k0) idx cur (.slice A2 ps1.length c2) ps1) := hPV
          have HE : Hid _ := hE
          have HKL : Hid _ := hkl
          have htl : T < wr.heap.size := hPV.tc.low T (by simp)
          have hTD := hPV.ne
          have t2 : wr.cell? ⟨T, 2, none⟩ = some (.int .u64 cur) := by obtain ⟨_, hb⟩ := hPV.blk; exact hb.cell 2
          have t3 : wr.cell? ⟨T, 3, none⟩ = some (.int .u64 idx) := by obtain ⟨_, hb⟩ := hPV.blk; exact hb.cell 3
          clear hPV hE hkl
          cases kk with
          | nil =>
            have hnx := hC
            simp only [Chain] at hnx
            subst hnx
            have hcs := troot_any T D _ (pt g0) ((h0, s0) :: k0) wr.drew (HPV.out.tc.dig (Chg.refl [D] wr).drew HPV.out.hs) HW.out (by simp)
            go_wp2_with fail
            go_region_held3 (fun w' => w'.cell? ⟨T, 3, none⟩ = some (.int .u64 idx) ∧ w'.cell? ⟨T, 2, none⟩ = some (.int .u64 cur))
              (first
                | go_keep
                | exact ⟨f3, f2⟩)
              ((first | (go_at_call 26; refine hcs.mono ?_; rintro e w7 ⟨rv, rfl, ho7, hby7, hl7, hc7, hh7⟩; have f3 : w7.cell? ⟨T, 3, none⟩ = some (.int .u64 idx) := (hc7.cell (p := ⟨T, 3, none⟩) htl (by simp; omega)).trans t3; have f2 : w7.cell? ⟨T, 2, none⟩ = some (.int .u64 cur) := (hc7.cell (p := ⟨T, 2, none⟩) htl (by simp; omega)).trans t2; obtain ⟨A9, c9, hve9, _⟩ := ho7.form; subst hve9)))
            go_wp2_with fail
            (try simp only [Exit.inBlock, Exit.then]); refine bodyPost_ret (results_tmp4 rfl _ _ _) rfl ?_
            have hE := HE.out
            simp only [List.map_nil, List.append_nil] at hE
            rw [← hE]
            obtain ⟨vs, hown, hbs⟩ := HPV.out.own
            have hc7' : Chg [D] wr w7 := ⟨hc7.os, hc7.tape, hc7.output, hc7.size, hc7.block⟩
            have hsz := HPV.out.chg.size
            exact ⟨_, _, vs, rfl, ho7.mono hsz, hown.chg hc7' (fun y e => by simp; rintro rfl; exact HPV.out.a2 e), (hbs.chg hc7' (by intro y hm; left; simp at hm; simp [hm])).more (by simp), HPV.out.chg.trans (hc7'.mono (by simp)), hh7⟩
          | cons q5 r5 =>
            obtain ⟨h5, s5⟩ := q5
            obtain ⟨g5, nx5, sv5, rfl, hg5, hB5, hv5, hl5, hC5⟩ := hC
            have hv5' := hv5
            obtain ⟨A5, c5, e5, _⟩ := hv5'
            rw [hl5] at e5
            subst e5
            have d0 : wr.cell? ⟨g5, 0, none⟩ = some nx5 := hB5.cell 0
            have d2 : wr.cell? ⟨g5, 2, none⟩ = some (.slice A5 32 c5) := hB5.cell 2
            have hg5l := hB5.lt
            obtain ⟨vs, hown, hbs⟩ := HPV.out.own
            have HBS : Hid (Bss wr (T :: D :: ((Value.slice Ap ps.length cp).ownBlock.toList ++ (Value.slice A2 ps1.length c2).ownBlock.toList)) vs ps1) := hbs
            have HO : Hid (Own wr base 22 1 (.slice A2 ps1.length c2) ps1.length vs) := hown
            have HV5 : Hid (Bs wr (T :: D :: ((Value.slice Ap ps.length cp).ownBlock.toList ++ (Value.slice A2 ps1.length c2).ownBlock.toList)) (.slice A5 32 c5) s5) := hv5
            have HC5 : Hid (Chain wr (T :: D :: ((Value.slice Ap ps.length cp).ownBlock.toList ++ (Value.slice A2 ps1.length c2).ownBlock.toList)) r5 nx5) := hC5
            have hbase := HPV.out.base
            have hn5 : ∀ x, (Value.slice A2 ps1.length c2).ownBlock = some x → g5 ≠ x := fun x e e' => hg5 (by rw [e']; simp [e])
            have HN5 : Hid _ := hn5
            have hpl2 : ps1.length < 900 := by simp at hpl; omega
            clear hbs hown hv5 hC5 hB5 hg5 hn5
            go_wp2_with (at_builtin; refine wpList_append_mm _ rfl _ _ 24 rfl base 22 i0 _ 1 24 Tryd.underlying24 hi0 hz0 hz1 hz2 rfl (by omega) (.slice A2 ps1.length c2) ps1.length vs rfl (HO.out.alloc _) (some ⟨wr.heap.size, 0, none⟩) 1 1 [.slice A5 32 c5] rfl (Rd.of_blk (Blk.new _ _ _) rfl rfl (Nat.le_refl _)) (by simp [Value.oneCell']) (by simp only [maxLen]; omega) (by omega) (by simp; omega) ?_; intro v2 w2 hown2 hg2 hat2; have d02 : w2.cell? ⟨g5, 0, none⟩ = some nx5 := (World.cell?_of_block (hg2.block g5 (by simp; omega) (fun e => HN5.out _ e.symm rfl))).trans (((Chg.refl [] wr).alloc _).cell (p := ⟨g5, 0, none⟩) hg5l (by simp) |>.trans d0); obtain ⟨Av, cv, hve, _⟩ := hown2.form; subst hve)
            obtain ⟨hpn, hcn⟩ := HPV.out.app (s := s5) ((Chg.refl [] wr).alloc _) HBS.out HV5.out HC5.out hown2 hg2 hat2
            have hE := HE.out
            have hkl := HKL.out
            have el : (ps1 ++ [s5]).length = ps1.length + 1 := by simp
            go_roundg (gk - 1)
            case measure => simp at hkl; omega
            case rel =>
              refine ⟨Av, cv, ps1 ++ [s5], r5, by rw [el], by rw [el]; exact hpn, by rw [el]; exact hcn, by simp at hkl; omega, by rw [el]; simp at hpl; omega, ?_⟩
              rw [← hE]; simp
      | cons q r =>
        obtain ⟨h2, s2⟩ := q
        have hCd := hC.more hm2
        obtain ⟨g2, nx2, sv2, rfl, hg2, hB2, hv2, hl2, hC2⟩ := hCd
        have b0 : wc.cell? ⟨g2, 0, none⟩ = some nx2 := hB2.cell 0
        have b1 : wc.cell? ⟨g2, 1, none⟩ = some (.int .i64 h2) := hB2.cell 1
        have hgl := hB2.lt
        have HC2 : Hid (Chain wc (T :: D :: ((Value.slice Ap ps.length cp).ownBlock.toList ++ (Value.slice Ap ps.length cp).ownBlock.toList)) r nx2) := hC2
        have HCd : Hid (Chain wc (T :: D :: ((Value.slice Ap ps.length cp).ownBlock.toList ++ (Value.slice Ap ps.length cp).ownBlock.toList)) ((h2, s2) :: r) (pt g2)) := hC.more hm2
        have HN2 : Hid (∀ x, (Value.slice Ap ps.length cp).ownBlock = some x → g2 ≠ x) := fun x e e' => hg2 (by rw [e']; simp [e])
        have hrl : r.length + 1 ≤ k0.length := by
          have hcl := collapse_len sha ps.length k0 s0
          have h1 := HRR.out
          rw [h1] at hcl
          simpa using hcl
        have HS : Hid (Bs wc (T :: D :: ((Value.slice Ap ps.length cp).ownBlock.toList ++ (Value.slice Ap ps.length cp).ownBlock.toList)) (.slice A1 32 c1) s) := HV.out.more hm2
        obtain ⟨vs, hown, hbs⟩ := HP.out.own
        have HBS : Hid (Bss wc (T :: D :: ((Value.slice Ap ps.length cp).ownBlock.toList ++ (Value.slice Ap ps.length cp).ownBlock.toList)) vs ps) := hbs
        have HO : Hid (Own wc base 22 1 (.slice Ap ps.length cp) ps.length vs) := hown
        have hbase := HP.out.base
        have hwlk : k0.length + 1 ≤ 250 := by have := hwl; simp at this; have := HW.out; omega
        clear hB2 hv2 hC2 hg2 hC hbs hown hm2
        by_cases heq : h2 + 1 = ps.length
        · have heqI : ((h2 : Int) == (ps.length : Int) - 1) = true := by simp; omega
          go_wp2_with (at_builtin; refine wpList_append_mm _ rfl _ _ 24 rfl base 22 i0 _ 1 24 Tryd.underlying24 hi0 hz0 hz1 hz2 rfl (by omega) (.slice Ap ps.length cp) ps.length vs rfl (HO.out.alloc _) (some ⟨wc.heap.size, 0, none⟩) 1 1 [.slice A1 32 c1] rfl (Rd.of_blk (Blk.new _ _ _) rfl rfl (Nat.le_refl _)) (by simp [Value.oneCell']) (by simp only [maxLen]; omega) (by omega) (by simp; omega) ?_; intro v2 w2 hown2 hgr2 hat2; have d02 : w2.cell? ⟨g2, 0, none⟩ = some nx2 := (World.cell?_of_block (hgr2.block g2 (by simp; omega) (fun e => HN2.out _ e.symm rfl))).trans (((Chg.refl [] wc).alloc _).cell (p := ⟨g2, 0, none⟩) hgl (by simp) |>.trans b0); have d03 : w2.cell? ⟨g, 0, none⟩ = some (pt g2) := (World.cell?_of_block (hgr2.block g (by simp; omega) (fun e => HN1.out _ e.symm rfl))).trans (((Chg.refl [] wc).alloc _).cell (p := ⟨g, 0, none⟩) hgl1 (by simp) |>.trans a0); obtain ⟨Av, cv, hve, _⟩ := hown2.form; subst hve)
          obtain ⟨hpn, hcn⟩ := HP.out.app (s := s) ((Chg.refl [] wc).alloc _) HBS.out HS.out HC2.out hown2 hgr2 hat2
          have el : (ps ++ [s]).length = ps.length + 1 := by simp
          have HS0 : Hid (∃ A1 c1 ps1 kk, Value.slice Av (ps.length + 1) cv = .slice A1 (List.length ps1) c1 ∧ Pv w w2 T D base (.slice Ap ps.length cp) (pt g0) ((h0, s0) :: k0) idx cur (.slice A1 ps1.length c1) ps1 ∧
              Chain w2 (T :: D :: ((Value.slice Ap ps.length cp).ownBlock.toList ++ (Value.slice A1 ps1.length c1).ownBlock.toList)) kk nx2 ∧ kk.length = r.length ∧ ps1.length + kk.length ≤ 900 ∧ ps1 ++ kk.map (·.2) = prove sha ps ((h0, s0) :: k0)) :=
            ⟨Av, cv, ps ++ [s], r, by rw [el], by rw [el]; exact hpn, by rw [el]; exact hcn, rfl, by rw [el]; omega, by rw [HPr.out]; simp [finish, heq]⟩
          go_loopg [3, 6] r.length (fun gk v3 v6 wr => ∃ A1 c1 ps1 kk, v3 = .slice A1 (List.length ps1) c1 ∧ Pv w wr T D base (.slice Ap ps.length cp) (pt g0) ((h0, s0) :: k0) idx cur (.slice A1 ps1.length c1) ps1 ∧
            Chain wr (T :: D :: ((Value.slice Ap ps.length cp).ownBlock.toList ++ (Value.slice A1 ps1.length c1).ownBlock.toList)) kk v6 ∧ kk.length = gk ∧ ps1.length + kk.length ≤ 900 ∧ ps1 ++ kk.map (·.2) = prove sha ps ((h0, s0) :: k0))
          case atStart => exact HS0.out
          case round =>
            obtain ⟨A2, c2, ps1, kk, rfl, hPV, hC, hkl, hpl, hE⟩ := hrel
            have HPV : Hid (Pv w wr T D base (.slice Ap ps.length cp) (pt g0) ((h0, s0) :: k0) idx cur (.slice A2 ps1.length c2) ps1) := hPV
            have HE : Hid _ := hE
            have HKL : Hid _ := hkl
            have htl : T < wr.heap.size := hPV.tc.low T (by simp)
            have hTD := hPV.ne
            have t2 : wr.cell? ⟨T, 2, none⟩ = some (.int .u64 cur) := by obtain ⟨_, hb⟩ := hPV.blk; exact hb.cell 2
            have t3 : wr.cell? ⟨T, 3, none⟩ = some (.int .u64 idx) := by obtain ⟨_, hb⟩ := hPV.blk; exact hb.cell 3
            clear hPV hE hkl
            cases kk with
            | nil =>
              have hnx := hC
              simp only [Chain] at hnx
              subst hnx
              have hcs := troot_any T D _ (pt g0) ((h0, s0) :: k0) wr.drew (HPV.out.tc.dig (Chg.refl [D] wr).drew HPV.out.hs) HW.out (by simp)
              go_wp2_with fail
              go_region_held3 (fun w' => w'.cell? ⟨T, 3, none⟩ = some (.int .u64 idx) ∧ w'.cell? ⟨T, 2, none⟩ = some (.int .u64 cur))
                (first
                  | go_keep
                  | exact ⟨f3, f2⟩)
                ((first | (go_at_call 26; refine hcs.mono ?_; rintro e w7 ⟨rv, rfl, ho7, hby7, hl7, hc7, hh7⟩; have f3 : w7.cell? ⟨T, 3, none⟩ = some (.int .u64 idx) := (hc7.cell (p := ⟨T, 3, none⟩) htl (by simp; omega)).trans t3; have f2 : w7.cell? ⟨T, 2, none⟩ = some (.int .u64 cur) := (hc7.cell (p := ⟨T, 2, none⟩) htl (by simp; omega)).trans t2; obtain ⟨A9, c9, hve9, _⟩ := ho7.form; subst hve9)))
              go_wp2_with fail
              (try simp only [Exit.inBlock, Exit.then]); refine bodyPost_ret (results_tmp4 rfl _ _ _) rfl ?_
              have hE := HE.out
              simp only [List.map_nil, List.append_nil] at hE
              rw [← hE]
              obtain ⟨vs, hown, hbs⟩ := HPV.out.own
              have hc7' : Chg [D] wr w7 := ⟨hc7.os, hc7.tape, hc7.output, hc7.size, hc7.block⟩
              have hsz := HPV.out.chg.size
              exact ⟨_, _, vs, rfl, ho7.mono hsz, hown.chg hc7' (fun y e => by simp; rintro rfl; exact HPV.out.a2 e), (hbs.chg hc7' (by intro y hm; left; simp at hm; simp [hm])).more (by simp), HPV.out.chg.trans (hc7'.mono (by simp)), hh7⟩
            | cons q5 r5 =>
              obtain ⟨h5, s5⟩ := q5
              obtain ⟨g5, nx5, sv5, rfl, hg5, hB5, hv5, hl5, hC5⟩ := hC
              have hv5' := hv5
              obtain ⟨A5, c5, e5, _⟩ := hv5'
              rw [hl5] at e5
              subst e5
              have d0 : wr.cell? ⟨g5, 0, none⟩ = some nx5 := hB5.cell 0
              have d2 : wr.cell? ⟨g5, 2, none⟩ = some (.slice A5 32 c5) := hB5.cell 2
              have hg5l := hB5.lt
              obtain ⟨vs, hown, hbs⟩ := HPV.out.own
              have HBS : Hid (Bss wr (T :: D :: ((Value.slice Ap ps.length cp).ownBlock.toList ++ (Value.slice A2 ps1.length c2).ownBlock.toList)) vs ps1) := hbs
              have HO : Hid (Own wr base 22 1 (.slice A2 ps1.length c2) ps1.length vs) := hown
              have HV5 : Hid (Bs wr (T :: D :: ((Value.slice Ap ps.length cp).ownBlock.toList ++ (Value.slice A2 ps1.length c2).ownBlock.toList)) (.slice A5 32 c5) s5) := hv5
              have HC5 : Hid (Chain wr (T :: D :: ((Value.slice Ap ps.length cp).ownBlock.toList ++ (Value.slice A2 ps1.length c2).ownBlock.toList)) r5 nx5) := hC5
              have hbase := HPV.out.base
              have hn5 : ∀ x, (Value.slice A2 ps1.length c2).ownBlock = some x → g5 ≠ x := fun x e e' => hg5 (by rw [e']; simp [e])
              have HN5 : Hid _ := hn5
              have hpl2 : ps1.length < 900 := by simp at hpl; omega
              clear hbs hown hv5 hC5 hB5 hg5 hn5
              go_wp2_with (at_builtin; refine wpList_append_mm _ rfl _ _ 24 rfl base 22 i0 _ 1 24 Tryd.underlying24 hi0 hz0 hz1 hz2 rfl (by omega) (.slice A2 ps1.length c2) ps1.length vs rfl (HO.out.alloc _) (some ⟨wr.heap.size, 0, none⟩) 1 1 [.slice A5 32 c5] rfl (Rd.of_blk (Blk.new _ _ _) rfl rfl (Nat.le_refl _)) (by simp [Value.oneCell']) (by simp only [maxLen]; omega) (by omega) (by simp; omega) ?_; intro v2 w2 hown2 hg2 hat2; have d02 : w2.cell? ⟨g5, 0, none⟩ = some nx5 := (World.cell?_of_block (hg2.block g5 (by simp; omega) (fun e => HN5.out _ e.symm rfl))).trans (((Chg.refl [] wr).alloc _).cell (p := ⟨g5, 0, none⟩) hg5l (by simp) |>.trans d0); obtain ⟨Av, cv, hve, _⟩ := hown2.form; subst hve)
              obtain ⟨hpn, hcn⟩ := HPV.out.app (s := s5) ((Chg.refl [] wr).alloc _) HBS.out HV5.out HC5.out hown2 hg2 hat2
              have hE := HE.out
              have hkl := HKL.out
              have el : (ps1 ++ [s5]).length = ps1.length + 1 := by simp
              go_roundg (gk - 1)
              case measure => simp at hkl; omega
              case rel =>
                refine ⟨Av, cv, ps1 ++ [s5], r5, by rw [el], by rw [el]; exact hpn, by rw [el]; exact hcn, by simp at hkl; omega, by rw [el]; simp at hpl; omega, ?_⟩
                rw [← hE]; simp
        · have heqI : ((h2 : Int) == (ps.length : Int) - 1) = false := by simp; omega
          have HS0 : Hid (∃ A1 c1 ps1 kk, Value.slice Ap ps.length cp = .slice A1 (List.length ps1) c1 ∧ Pv w wc T D base (.slice Ap ps.length cp) (pt g0) ((h0, s0) :: k0) idx cur (.slice A1 ps1.length c1) ps1 ∧
              Chain wc (T :: D :: ((Value.slice Ap ps.length cp).ownBlock.toList ++ (Value.slice A1 ps1.length c1).ownBlock.toList)) kk (pt g2) ∧ kk.length = r.length + 1 ∧ ps1.length + kk.length ≤ 900 ∧ ps1 ++ kk.map (·.2) = prove sha ps ((h0, s0) :: k0)) :=
            ⟨Ap, cp, ps, (h2, s2) :: r, rfl, HP.out, HCd.out, rfl, by simp; omega, by rw [HPr.out]; simp [finish, heq]⟩
          go_wp2_with fail
          go_loopg [3, 6] (r.length + 1) (fun gk v3 v6 wr => ∃ A1 c1 ps1 kk, v3 = .slice A1 (List.length ps1) c1 ∧ Pv w wr T D base (.slice Ap ps.length cp) (pt g0) ((h0, s0) :: k0) idx cur (.slice A1 ps1.length c1) ps1 ∧
            Chain wr (T :: D :: ((Value.slice Ap ps.length cp).ownBlock.toList ++ (Value.slice A1 ps1.length c1).ownBlock.toList)) kk v6 ∧ kk.length = gk ∧ ps1.length + kk.length ≤ 900 ∧ ps1 ++ kk.map (·.2) = prove sha ps ((h0, s0) :: k0))
          case atStart => exact HS0.out
          case round =>
            obtain ⟨A2, c2, ps1, kk, rfl, hPV, hC, hkl, hpl, hE⟩ := hrel
            have HPV : Hid (Pv w wr T D base (.slice Ap ps.length cp) (pt g0) ((h0, s0) :: k0) idx cur (.slice A2 ps1.length c2) ps1) := hPV
            have HE : Hid _ := hE
            have HKL : Hid _ := hkl
            have htl : T < wr.heap.size := hPV.tc.low T (by simp)
            have hTD := hPV.ne
            have t2 : wr.cell? ⟨T, 2, none⟩ = some (.int .u64 cur) := by obtain ⟨_, hb⟩ := hPV.blk; exact hb.cell 2
            have t3 : wr.cell? ⟨T, 3, none⟩ = some (.int .u64 idx) := by obtain ⟨_, hb⟩ := hPV.blk; exact hb.cell 3
            clear hPV hE hkl
            cases kk with
            | nil =>
              have hnx := hC
              simp only [Chain] at hnx
              subst hnx
              have hcs := troot_any T D _ (pt g0) ((h0, s0) :: k0) wr.drew (HPV.out.tc.dig (Chg.refl [D] wr).drew HPV.out.hs) HW.out (by simp)
              go_wp2_with fail
              go_region_held3 (fun w' => w'.cell? ⟨T, 3, none⟩ = some (.int .u64 idx) ∧ w'.cell? ⟨T, 2, none⟩ = some (.int .u64 cur))
                (first
                  | go_keep
                  | exact ⟨f3, f2⟩)
                ((first | (go_at_call 26; refine hcs.mono ?_; rintro e w7 ⟨rv, rfl, ho7, hby7, hl7, hc7, hh7⟩; have f3 : w7.cell? ⟨T, 3, none⟩ = some (.int .u64 idx) := (hc7.cell (p := ⟨T, 3, none⟩) htl (by simp; omega)).trans t3; have f2 : w7.cell? ⟨T, 2, none⟩ = some (.int .u64 cur) := (hc7.cell (p := ⟨T, 2, none⟩) htl (by simp; omega)).trans t2; obtain ⟨A9, c9, hve9, _⟩ := ho7.form; subst hve9)))
              go_wp2_with fail
              (try simp only [Exit.inBlock, Exit.then]); refine bodyPost_ret (results_tmp4 rfl _ _ _) rfl ?_
              have hE := HE.out
              simp only [List.map_nil, List.append_nil] at hE
              rw [← hE]
              obtain ⟨vs, hown, hbs⟩ := HPV.out.own
              have hc7' : Chg [D] wr w7 := ⟨hc7.os, hc7.tape, hc7.output, hc7.size, hc7.block⟩
              have hsz := HPV.out.chg.size
              exact ⟨_, _, vs, rfl, ho7.mono hsz, hown.chg hc7' (fun y e => by simp; rintro rfl; exact HPV.out.a2 e), (hbs.chg hc7' (by intro y hm; left; simp at hm; simp [hm])).more (by simp), HPV.out.chg.trans (hc7'.mono (by simp)), hh7⟩
            | cons q5 r5 =>
              obtain ⟨h5, s5⟩ := q5
              obtain ⟨g5, nx5, sv5, rfl, hg5, hB5, hv5, hl5, hC5⟩ := hC
              have hv5' := hv5
              obtain ⟨A5, c5, e5, _⟩ := hv5'
              rw [hl5] at e5
              subst e5
              have d0 : wr.cell? ⟨g5, 0, none⟩ = some nx5 := hB5.cell 0
              have d2 : wr.cell? ⟨g5, 2, none⟩ = some (.slice A5 32 c5) := hB5.cell 2
              have hg5l := hB5.lt
              obtain ⟨vs, hown, hbs⟩ := HPV.out.own
              have HBS : Hid (Bss wr (T :: D :: ((Value.slice Ap ps.length cp).ownBlock.toList ++ (Value.slice A2 ps1.length c2).ownBlock.toList)) vs ps1) := hbs
              have HO : Hid (Own wr base 22 1 (.slice A2 ps1.length c2) ps1.length vs) := hown
              have HV5 : Hid (Bs wr (T :: D :: ((Value.slice Ap ps.length cp).ownBlock.toList ++ (Value.slice A2 ps1.length c2).ownBlock.toList)) (.slice A5 32 c5) s5) := hv5
              have HC5 : Hid (Chain wr (T :: D :: ((Value.slice Ap ps.length cp).ownBlock.toList ++ (Value.slice A2 ps1.length c2).ownBlock.toList)) r5 nx5) := hC5
              have hbase := HPV.out.base
              have hn5 : ∀ x, (Value.slice A2 ps1.length c2).ownBlock = some x → g5 ≠ x := fun x e e' => hg5 (by rw [e']; simp [e])
              have HN5 : Hid _ := hn5
              have hpl2 : ps1.length < 900 := by simp at hpl; omega
              clear hbs hown hv5 hC5 hB5 hg5 hn5
              go_wp2_with (at_builtin; refine wpList_append_mm _ rfl _ _ 24 rfl base 22 i0 _ 1 24 Tryd.underlying24 hi0 hz0 hz1 hz2 rfl (by omega) (.slice A2 ps1.length c2) ps1.length vs rfl (HO.out.alloc _) (some ⟨wr.heap.size, 0, none⟩) 1 1 [.slice A5 32 c5] rfl (Rd.of_blk (Blk.new _ _ _) rfl rfl (Nat.le_refl _)) (by simp [Value.oneCell']) (by simp only [maxLen]; omega) (by omega) (by simp; omega) ?_; intro v2 w2 hown2 hg2 hat2; have d02 : w2.cell? ⟨g5, 0, none⟩ = some nx5 := (World.cell?_of_block (hg2.block g5 (by simp; omega) (fun e => HN5.out _ e.symm rfl))).trans (((Chg.refl [] wr).alloc _).cell (p := ⟨g5, 0, none⟩) hg5l (by simp) |>.trans d0); obtain ⟨Av, cv, hve, _⟩ := hown2.form; subst hve)
              obtain ⟨hpn, hcn⟩ := HPV.out.app (s := s5) ((Chg.refl [] wr).alloc _) HBS.out HV5.out HC5.out hown2 hg2 hat2
              have hE := HE.out
              have hkl := HKL.out
              have el : (ps1 ++ [s5]).length = ps1.length + 1 := by simp
              go_roundg (gk - 1)
              case measure => simp at hkl; omega
              case rel =>
                refine ⟨Av, cv, ps1 ++ [s5], r5, by rw [el], by rw [el]; exact hpn, by rw [el]; exact hcn, by simp at hkl; omega, by rw [el]; simp at hpl; omega, ?_⟩
                rw [← hE]; simp
end Go.Proofs.YtcpeldnikloebaaDoor
