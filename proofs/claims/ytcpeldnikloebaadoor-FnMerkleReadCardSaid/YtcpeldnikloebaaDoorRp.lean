/- impl.MerkleProof's function. -/
import Derived.Test.YtcpeldnikloebaaDoorRw
set_option linter.unusedVariables false
set_option linter.unusedSimpArgs false
namespace Go.Proofs.YtcpeldnikloebaaDoor
open Go.RowKit Go.Mm Go.Sha Merk

/-- bytes do not lie where no byte is -/
theorem Bs.sepV {w : World} {S : List Nat} {v : Value} {l : List Int} {R : Nat} {t : TypeId} {cs : Array Value} (h : Bs w S v l) (hR : Blk w R t cs) (hn : ∀ (o : Nat) (x : Int), cs[o]? ≠ some (Value.int .u8 x)) : Bs w (R :: S) v l := by
  obtain ⟨A', c', e, hr, hb, ha⟩ := h
  refine ⟨A', c', e, hr, hb, fun ad e1 e2 hm => ?_⟩
  rcases List.mem_cons.1 hm with hm | hm
  · obtain ⟨ad', e', hlt, hc⟩ := hr.2 e2
    rw [e1] at e'; injection e' with e'; subst e'
    obtain ⟨x, xs, rfl⟩ : ∃ x xs, l = x :: xs := by
      cases l with
      | nil => simp at e2
      | cons x xs => exact ⟨x, xs, rfl⟩
    have h0 := hc 0 (.int .u8 x) (by simp [vb])
    have hs := World.cell?_spot h0
    rw [show ad.add 0 = ad by unfold Addr.add; simp] at h0 hs
    have h1 : ad = ⟨R, ad.off, none⟩ := by
      obtain ⟨b, o, s⟩ := ad
      simp only at hm hs ⊢
      subst hm; subst hs; rfl
    rw [h1, hR.cell] at h0
    exact hn _ _ h0
  · exact ha ad e1 e2 hm
theorem Bss.sepV {w : World} {S : List Nat} {vs : List Value} {ls : List (List Int)} {R : Nat} {t : TypeId} {cs : Array Value} (h : Bss w S vs ls) (hR : Blk w R t cs) (hn : ∀ (o : Nat) (x : Int), cs[o]? ≠ some (Value.int .u8 x)) : Bss w (R :: S) vs ls :=
  ⟨h.1, fun k hk => Bs.sepV (h.2 k hk) hR hn⟩
theorem one_not {u : Value} (h : ∀ x : Int, u ≠ .int .u8 x) : ∀ (o : Nat) (x : Int), #[u][o]? ≠ some (Value.int .u8 x) := by
  intro o x e
  rcases o with _ | o
  · simp at e; exact h x e
  · simp at e

set_option maxHeartbeats 8000000 in
theorem mproof1_any (S : List Nat) (B idx g o L cap : Nat) (vs : List Value) (ls : List (List Int)) (w : World) (hl : Lin w g o L vs ls) (hL1 : idx < L) (hL2 : L ≤ 200) (hLc : L ≤ cap) (hSl : ∀ k ∈ S, k < w.heap.size)
    (h0 : Blk w B 24 #[.slice (some ⟨g, o, none⟩) L cap]) (h1 : Blk w (B + 1) 25 #[.int .u64 idx]) (h2 : Blk w (B + 2) 22 #[.slice none 0 0]) (h3 : Blk w (B + 3) 24 #[.slice none 0 0]) (h4 : Blk w (B + 4) 25 #[.int .u64 0]) (h5 : Blk w (B + 5) 25 #[.int .u64 0]) :
    Calls Tryd.prog 20 #[pt (B + 1), pt B, pt (B + 2), pt (B + 3), pt (B + 4), pt (B + 5)] w fun e w' => e = .returned (.tuple #[]) ∧ ∃ rv pv vs', Blk w' (B + 2) 22 #[rv] ∧ Blk w' (B + 3) 24 #[pv] ∧ Blk w' (B + 4) 25 #[.int .u64 idx] ∧ Blk w' (B + 5) 25 #[.int .u64 L] ∧
      Own w' w.heap.size 5 1 rv 32 (vb (mroot sha ls)) ∧ Own w' w.heap.size 22 1 pv (ls.getD idx [] :: mpath sha ls idx).length vs' ∧ Bss w' ([B + 2, B + 3, B + 4, B + 5] ++ S) vs' (ls.getD idx [] :: mpath sha ls idx) ∧ Chg [B + 2, B + 3, B + 4, B + 5] w w' := by
  obtain ⟨i1, hi1, hy0, hy1, hy2⟩ := info_parts info_u8c
  have HL : Hid (Lin w g o L vs ls) := hl
  have H0 : Hid (Blk w B 24 #[.slice (some ⟨g, o, none⟩) L cap]) := h0
  have H1 : Hid (Blk w (B + 1) 25 #[.int .u64 idx]) := h1
  have H2 : Hid (Blk w (B + 2) 22 #[.slice none 0 0]) := h2
  have H3 : Hid (Blk w (B + 3) 24 #[.slice none 0 0]) := h3
  have H4 : Hid (Blk w (B + 4) 25 #[.int .u64 0]) := h4
  have H5 : Hid (Blk w (B + 5) 25 #[.int .u64 0]) := h5
  have hcn := shanew_any w
  have hq := ne_neq
  clear hl h0 h1 h2 h3 h4 h5
  go_enter Tryd.func20, Tryd.ntmps20
  go_wp2_with (first
    | (go_at_call 14; refine hcn.mono ?_; rintro e w1 ⟨D, rfl, hD, hbD, hc1⟩; have HC1 : Hid (Chg [] w w1) := hc1; have hct := tnew_any D w.heap.size w1 ⟨_, _, _, hbD⟩ hc1.size; clear hbD hc1)
    | (go_at_call 21; refine hct.mono ?_; rintro e w2 ⟨T, rfl, hT, ht, hc2⟩; have HC2 : Hid (Chg [] w w2) := HC1.out.trans hc2; have hst := tset_any T D w.heap.size idx w2 ht; clear ht hc2
       have q1 : w2.cell? ⟨B + 1, 0, none⟩ = some (.int .u64 idx) := (H1.out.chg HC2.out (by simp)).cell 0)
    | (go_at_call 22; refine hst.mono ?_; rintro e w3 ⟨rfl, ht3, hc3⟩; have HP3 : Hid (Pu w w3 T D true idx ls 0) := Pu.start ht3 (HC2.out.step hc3 (by simp; exact Nat.le_trans HC1.out.size hT)) (Nat.le_trans HC1.out.size hT) hD; clear ht3 hc3
       have q0 : w3.cell? ⟨B, 0, none⟩ = some (.slice (some ⟨g, o, none⟩) L cap) := (H0.out.chg HP3.out.ch (by simp)).cell 0))
  clear hst hct hcn q1
  go_loopg [18] L (fun gk v10 wr => ∃ i : Nat, gk = L - i ∧ i ≤ L ∧ v10 = .int .i64 i ∧ Pu w wr T D true idx ls i)
  case atStart => exact ⟨0, rfl, Nat.zero_le _, rfl, HP3.out⟩
  case round =>
    obtain ⟨i, rfl, hiL, rfl, hP⟩ := hrel
    have HP : Hid (Pu w wr T D true idx ls i) := hP
    clear hP q0
    rcases Nat.lt_or_ge i L with hlt | hge
    · have hltI : (i : Int) < (L : Int) := by omega
      have hi0' : (0 : Int) ≤ (i : Int) := by omega
      have hwi : IntKind.i64.wrap ((i : Int) + 1) = ((i + 1 : Nat) : Int) := by rw [IntWalk.i64_in _ (by omega)]; omega
      have hli := HL.out.chg HP.out.ch
      have hci := hli.cell i hlt
      have hbi := hli.bs i hlt
      have hln := hli.le i hlt
      generalize hxe : ls.getD i [] = li at hbi hln
      have HXE : Hid (ls.getD i [] = li) := hxe
      clear hxe hli
      obtain ⟨A3, c3, e3, hrd, hby, _⟩ := hbi
      generalize vs.getD i default = vi at *
      subst e3
      have HRD : Hid (Rd wr 1 A3 li.length (vb li)) := hrd
      have HBY : Hid (Bytes li) := hby
      clear hrd hby
      go_wp2_with (first
        | (at_builtin; refine wpList_append_mm _ rfl _ _ 22 rfl wr.heap.size 5 i1 _ 1 1 Tryd.underlying22 hi1 hy0 hy1 hy2 rfl (by omega) (.slice (some ⟨wr.heap.size, 0, none⟩) 0 0) 0 [] rfl (Own.lit wr #[] 0 (Nat.le_refl _) (by simp) rfl) A3 li.length c3 _ rfl (HRD.out.alloc _) (vb_one _) (by simp only [maxLen]; omega) (by omega) (by simp) ?_
           intro v1 w2 hown1 hg1 hat1; rw [Nat.zero_add, List.nil_append] at hown1
           have hcc : Chg [] wr w2 := ((((Chg.refl [] wr).alloc (.cells #[] 5)).mono (by simp)).trans (Chg.of_grown (S := [wr.heap.size]) hg1 (by intro k hk; injection hk with hk; simp [← hk]))).new (Nat.le_refl _)
           have hpu := HP.out.push (by rw [HL.out.len]; exact hlt) (by rw [HL.out.len]; exact hL2) (by omega) hcc hown1 HXE.out (by omega) HBY.out
           obtain ⟨A1, c1, rfl, _⟩ := hown1.form; clear hown1 hg1 hat1 hcc)
        | (go_at_call 23; refine hpu.mono ?_; rintro e w3 ⟨rfl, hP3⟩))
      go_roundg (L - (i + 1))
      case measure => omega
      case rel => exact ⟨i + 1, rfl, hlt, by simp, hP3⟩
    · have hgeI : ¬ (i : Int) < (L : Int) := by omega
      have hiL' : i = ls.length := by rw [HL.out.len]; omega
      have hpr := Pu.prove (hiL' ▸ HP.out) (by rw [HL.out.len]; exact hL1) (by rw [HL.out.len]; exact hL2)
      have hlen200 : ls.length ≤ 200 := by rw [HL.out.len]; exact hL2
      have hpl := mpath_len10 hlen200 (i := idx) (by rw [HL.out.len]; exact hL1)
      have hple := fun j => proof_le (l := ls) (i := idx) (k := 1000) (by
        intro x hx
        obtain ⟨n, hn, rfl⟩ := List.getElem_of_mem hx
        have := HL.out.le n (by rw [← HL.out.len]; exact hn)
        rwa [List.getD_eq_getElem?_getD, List.getElem?_eq_getElem hn] at this) (by omega) j
      rw [HL.out.len] at hpr
      have hne : 0 < (ls.getD idx [] :: mpath sha ls idx).length := by simp
      have hL10 : (ls.getD idx [] :: mpath sha ls idx).length ≤ 20 := by simp; omega
      have H0n : Hid (0 < (ls.getD idx [] :: mpath sha ls idx).length) := hne
      have H20 : Hid ((ls.getD idx [] :: mpath sha ls idx).length ≤ 20) := hL10
      have HPLE : Hid _ := hple
      clear hiL' hlen200 hpl hple hne hL10
      generalize hpp : ls.getD idx [] :: mpath sha ls idx = pp at *
      have HPP : Hid (ls.getD idx [] :: mpath sha ls idx = pp) := hpp
      clear hpp
      have hBl : B + 5 < w.heap.size := H5.out.lt
      have HBL : Hid (B + 5 < w.heap.size) := hBl
      clear hBl
      go_wp2_with (first
        | (go_at_call 24; refine hpr.mono ?_; rintro e w3 ⟨rv, pv, vs3, rfl, ho3, hp3, hb3, hc3⟩; obtain ⟨A1, k1, rfl, _⟩ := ho3.form; have HO3 : Hid (Own w3 w.heap.size 5 1 (.slice A1 32 k1) 32 (vb (mroot sha ls))) := ho3
           obtain ⟨gp, op, cp, rfl, hlp, hbp, hgp, hcp⟩ := Own.cells1 hp3 H0n.out
           have HC3 : Hid (Chg [] w w3) := hc3; have HB3 : Hid (Bss w3 [] vs3 pp) := hb3
           have HG3 : Hid (gp < w3.heap.size ∧ w.heap.size ≤ gp ∧ pp.length ≤ cp ∧ ∀ j, j < pp.length → w3.cell? ⟨gp, op + j, none⟩ = some (vs3.getD j default)) := ⟨hgp, hbp, hlp, hcp⟩
           have b2 := H2.out.chg hc3 (by simp); have b3 := H3.out.chg hc3 (by simp); have b4 := H4.out.chg hc3 (by simp); have b5 := H5.out.chg hc3 (by simp)
           have q2 := b2.cell 0; have q3 := b3.cell 0; have q4 := b4.cell 0; have q5 := b5.cell 0; have z2 := b2.frozen 0; have z3 := b3.frozen 0; have z4 := b4.frozen 0; have z5 := b5.frozen 0
           clear ho3 hp3 hb3 hc3 b2 b3 b4 b5 hlp hbp hgp hcp)
        | (go_at_call 16
           have b2 := H2.out.chg HC3.out (by simp); have b3 := H3.out.chg HC3.out (by simp); have b4 := H4.out.chg HC3.out (by simp); have b5 := H5.out.chg HC3.out (by simp)
           have hbs3 := Bss.sepV (Bss.sepV (Bss.sepV (Bss.sepV HB3.out b5 (one_not (by simp))) b4 (one_not (by simp))) b3 (one_not (by simp))) b2 (one_not (by simp))
           have hcz : Chg [B + 2, B + 3, B + 4, B + 5] w3 ((((w3.setCell ⟨B + 2, 0, none⟩ (.slice A1 32 k1)).setCell ⟨B + 3, 0, none⟩ (.slice (some ⟨gp, op, none⟩) pp.length cp)).setCell ⟨B + 4, 0, none⟩ (.int .u64 idx)).setCell ⟨B + 5, 0, none⟩ (.int .u64 L)) :=
             ((((Chg.refl _ w3).setCell (p := ⟨B + 2, 0, none⟩) (.inl (by simp)) _).setCell (p := ⟨B + 3, 0, none⟩) (.inl (by simp)) _).setCell (p := ⟨B + 4, 0, none⟩) (.inl (by simp)) _).setCell (p := ⟨B + 5, 0, none⟩) (.inl (by simp)) _
           have hz2 := (((b2.set_ 0 (.slice A1 32 k1)).far (p := ⟨B + 3, 0, none⟩) (by simp) (.slice (some ⟨gp, op, none⟩) pp.length cp)).far (p := ⟨B + 4, 0, none⟩) (by simp) (.int .u64 idx)).far (p := ⟨B + 5, 0, none⟩) (by simp) (.int .u64 L)
           have hz3 := (((b3.far (p := ⟨B + 2, 0, none⟩) (by simp) (.slice A1 32 k1)).set_ 0 (.slice (some ⟨gp, op, none⟩) pp.length cp)).far (p := ⟨B + 4, 0, none⟩) (by simp) (.int .u64 idx)).far (p := ⟨B + 5, 0, none⟩) (by simp) (.int .u64 L)
           have hz4 := (((b4.far (p := ⟨B + 2, 0, none⟩) (by simp) (.slice A1 32 k1)).far (p := ⟨B + 3, 0, none⟩) (by simp) (.slice (some ⟨gp, op, none⟩) pp.length cp)).set_ 0 (.int .u64 idx)).far (p := ⟨B + 5, 0, none⟩) (by simp) (.int .u64 L)
           have hz5 := (((b5.far (p := ⟨B + 2, 0, none⟩) (by simp) (.slice A1 32 k1)).far (p := ⟨B + 3, 0, none⟩) (by simp) (.slice (some ⟨gp, op, none⟩) pp.length cp)).far (p := ⟨B + 4, 0, none⟩) (by simp) (.int .u64 idx)).set_ 0 (.int .u64 L)
           have hnot : ∀ g, w.heap.size ≤ g → g ∉ [B + 2, B + 3, B + 4, B + 5] := fun g hg hm => by have := HBL.out; simp only [List.mem_cons, List.not_mem_nil, or_false] at hm; omega
           refine (copies_any ([B + 2, B + 3, B + 4, B + 5] ++ S) gp op pp.length cp vs3 pp _ (Nat.lt_of_lt_of_le HG3.out.1 hcz.size) (fun j hj => (hcz.cell (p := ⟨gp, op + j, none⟩) HG3.out.1 (hnot _ HG3.out.2.1)).trans (HG3.out.2.2.2 j hj)) ((hbs3.chg hcz (fun k hk => .inl hk)).more (by simp)) rfl H20.out (fun j _ => HPLE.out j) HG3.out.2.2.1
             (by intro k hk; have h1 := HBL.out; have h2 := HC3.out.size; have h3 := hcz.size; rcases List.mem_append.1 hk with hk | hk; simp only [List.mem_cons, List.not_mem_nil, or_false] at hk; omega; have := hSl k hk; omega)).mono ?_
           rintro e w5 ⟨v5, vs5, rfl, ho5, hb5, hc5⟩
           have HOA : Hid (Own w5 w.heap.size 5 1 (.slice A1 32 k1) 32 (vb (mroot sha ls))) := (HO3.out.chg hcz (fun g hg => hnot g (HO3.out.lt g hg).1)).chg hc5 (by simp)
           have HOB : Hid (Own w5 w.heap.size 22 1 v5 pp.length vs5) := ho5.mono (Nat.le_trans HC3.out.size hcz.size)
           have HBB : Hid (Bss w5 ([B + 2, B + 3, B + 4, B + 5] ++ S) vs5 pp) := hb5
           have HCC : Hid (Chg [B + 2, B + 3, B + 4, B + 5] w w5) := ((HC3.out.mono (by simp)).trans hcz).trans (hc5.mono (by simp))
           have HZ2 : Hid (Blk w5 (B + 2) 22 #[.slice A1 32 k1]) := hz2.chg hc5 (by simp)
           have HZ3 : Hid (Blk w5 (B + 3) 24 #[.slice (some ⟨gp, op, none⟩) pp.length cp]) := hz3.chg hc5 (by simp)
           have HZ4 : Hid (Blk w5 (B + 4) 25 #[.int .u64 idx]) := hz4.chg hc5 (by simp)
           have HZ5 : Hid (Blk w5 (B + 5) 25 #[.int .u64 L]) := hz5.chg hc5 (by simp)
           have q9 := HZ3.out.cell 0; have z9 := HZ3.out.frozen 0
           obtain ⟨A5, k5, rfl, _⟩ := ho5.form
           clear b2 b3 b4 b5 hbs3 hcz hz2 hz3 hz4 hz5 hnot ho5 hb5 hc5))
      go_end0
      have hs : Chg [B + 2, B + 3, B + 4, B + 5] w5 (w5.setCell ⟨B + 3, 0, none⟩ (.slice A5 pp.length k5)) := (Chg.refl _ w5).setCell (p := ⟨B + 3, 0, none⟩) (.inl (by simp)) _
      have hnot : ∀ g, w.heap.size ≤ g → g ∉ [B + 2, B + 3, B + 4, B + 5] := fun g hg hm => by have := HBL.out; simp only [List.mem_cons, List.not_mem_nil, or_false] at hm; omega
      have hll : (mpath sha ls idx).length + 1 = pp.length := by rw [← HPP.out]; rfl
      rw [HPP.out, hll]
      exact ⟨rfl, _, _, vs5, HZ2.out.far (by simp) _, HZ3.out.set_ 0 _, HZ4.out.far (by simp) _, HZ5.out.far (by simp) _, HOA.out.chg hs (fun g hg => hnot g (HOA.out.lt g hg).1), HOB.out.chg hs (fun g hg => hnot g (HOB.out.lt g hg).1), HBB.out.chg hs (fun k hk => .inl (List.mem_append_left _ hk)), HCC.out.trans hs⟩
end Go.Proofs.YtcpeldnikloebaaDoor
