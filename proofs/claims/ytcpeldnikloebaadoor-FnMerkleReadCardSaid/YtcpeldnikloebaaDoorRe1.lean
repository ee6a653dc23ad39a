/- impl.MerkleRead's function. -/
import Derived.Test.YtcpeldnikloebaaDoorRc
import Derived.Test.YtcpeldnikloebaaDoorCp
import Derived.Test.YtcpeldnikloebaaDoorSf
import Derived.Test.YtcpeldnikloebaaDoorMq
set_option linter.unusedVariables false
set_option linter.unusedSimpArgs false
namespace Go.Proofs.YtcpeldnikloebaaDoor
open Go.RowKit Go.Mm Go.Sha Merk

theorem src_of {w w1 w2 : World} {R D E0 n c : Nat} {a b : Addr} {A : Option Addr} {xs : List Int} (he : Er w E0 a b) (hx : Bs w [] (.slice A n c) xs) (hl : xs.length = n) (h0 : 0 < n) (h1 : n ≤ 200) (hc : n ≤ c)
    (hR : w.heap.size ≤ R) (hb : Blk w1 R 59 #[.slice A n c, .int .i64 0, .int .i64 (-1)]) (hc1 : Chg [] w w1) (hD : w1.heap.size ≤ D) (hd : Hs w2 D) (hc2 : Chg [] w1 w2) : Src w2 R D E0 n c a b A xs := by
  have s1 := hc1.size
  have s2 := he.lt
  refine ⟨hb.chg hc2 (by simp), hd, he.chg (hc1.trans hc2) (by simp), (hx.more (T := [D, R]) ?_).chg (hc1.trans hc2) (by simp), hl, h0, h1, hc, by omega, by omega⟩
  intro y hy
  simp only [List.mem_cons, List.not_mem_nil, or_false] at hy ⊢
  rcases hy with rfl | rfl <;> omega

set_option maxHeartbeats 8000000 in
theorem mread1_any (S : List Nat) (B E0 m n c idx : Nat) (a b : Addr) (A : Option Addr) (xs : List Int) (w : World)
    (h0 : Blk w B 22 #[.slice A n c]) (h1 : Blk w (B + 1) 3 #[.int .i64 m]) (h2 : Blk w (B + 2) 25 #[.int .u64 idx]) (h3 : Blk w (B + 3) 22 #[.slice none 0 0]) (h4 : Blk w (B + 4) 22 #[.slice none 0 0])
    (h5 : Blk w (B + 5) 24 #[.slice none 0 0]) (h6 : Blk w (B + 6) 25 #[.int .u64 0]) (h7 : Blk w (B + 7) 4 #[.bool false])
    (he : Er w E0 a b) (hx : Bs w [] (.slice A n c) xs) (hl : xs.length = n) (hn0 : 0 < n) (hn1 : n ≤ 200) (hnc : n ≤ c) (hm0 : 0 < m) (hm : m ≤ 50) (hi : idx < (segs m xs).length) (hSl : ∀ k ∈ S, k < w.heap.size) :
    Calls Tryd.prog 11 #[pt B, pt (B + 1), pt (B + 2), pt (B + 3), pt (B + 4), pt (B + 5), pt (B + 6), pt (B + 7)] w fun e w' => e = .returned (.tuple #[]) ∧ ∃ rv sv pv vs,
      Blk w' (B + 3) 22 #[rv] ∧ Blk w' (B + 4) 22 #[sv] ∧ Blk w' (B + 5) 24 #[pv] ∧ Blk w' (B + 6) 25 #[.int .u64 (segs m xs).length] ∧ Blk w' (B + 7) 4 #[.bool true] ∧
      Own w' w.heap.size 5 1 rv 32 (vb (mroot sha (segs m xs))) ∧ Own w' w.heap.size 5 1 sv 32 (vb (mroot sha (segs m xs))) ∧
      Own w' w.heap.size 22 1 pv ((segs m xs).getD idx [] :: mpath sha (segs m xs) idx).length vs ∧ Bss w' ([B + 3, B + 4, B + 5, B + 6, B + 7] ++ S) vs ((segs m xs).getD idx [] :: mpath sha (segs m xs) idx) ∧ Chg [B + 3, B + 4, B + 5, B + 6, B + 7] w w' := by
  have H0 : Hid (Blk w B 22 #[.slice A n c]) := h0
  have H1 : Hid (Blk w (B + 1) 3 #[.int .i64 m]) := h1
  have H2 : Hid (Blk w (B + 2) 25 #[.int .u64 idx]) := h2
  have H3 : Hid (Blk w (B + 3) 22 #[.slice none 0 0]) := h3
  have H4 : Hid (Blk w (B + 4) 22 #[.slice none 0 0]) := h4
  have H5 : Hid (Blk w (B + 5) 24 #[.slice none 0 0]) := h5
  have H6 : Hid (Blk w (B + 6) 25 #[.int .u64 0]) := h6
  have H7 : Hid (Blk w (B + 7) 4 #[.bool false]) := h7
  have HE : Hid (Er w E0 a b) := he
  have HX : Hid (Bs w [] (.slice A n c) xs) := hx
  have hB := bnew_any A n c w.drew
  have q0 : w.cell? ⟨B, 0, none⟩ = some (.slice A n c) := h0.cell 0
  have q1 : w.cell? ⟨B + 1, 0, none⟩ = some (.int .i64 m) := h1.cell 0
  have q2 : w.cell? ⟨B + 2, 0, none⟩ = some (.int .u64 idx) := h2.cell 0
  clear h0 h1 h2 h3 h4 h5 h6 h7 he hx
  go_enter Tryd.func11, Tryd.ntmps11
  go_wp2_with fail
  go_region_held3 (fun w' => w'.cell? ⟨B, 0, none⟩ = some (.slice A n c) ∧ w'.cell? ⟨B + 1, 0, none⟩ = some (.int .i64 m))
    (first
      | go_keep
      | exact ⟨f0, f1⟩)
    ((first
      | (go_at_call 13; refine hB.mono ?_; rintro e w1 ⟨R, rfl, hR, hbR, hc1⟩; have HC1 : Hid (Chg [] w w1) := ⟨hc1.os, hc1.tape, hc1.output, hc1.size, hc1.block⟩; have HR : Hid (w.heap.size ≤ R ∧ Blk w1 R 59 #[.slice A n c, .int .i64 0, .int .i64 (-1)]) := ⟨hR, hbR⟩
         have f0 := (H0.out.chg HC1.out (by simp)).cell 0; have f1 := (H1.out.chg HC1.out (by simp)).cell 0; have hcn := shanew_any w1; clear hc1 hbR hR)
      | (go_at_call 14; refine hcn.mono ?_; rintro e w2 ⟨D, rfl, hD, hbD, hc2⟩; have HC2 : Hid (Chg [] w w2) := HC1.out.trans hc2
         have f0 := (H0.out.chg HC2.out (by simp)).cell 0; have f1 := (H1.out.chg HC2.out (by simp)).cell 0
         have hS := src_of HE.out HX.out hl hn0 hn1 hnc HR.out.1 HR.out.2 HC1.out hD ⟨_, _, _, hbD⟩ hc2; have HDl : Hid (w.heap.size ≤ D) := Nat.le_trans HC1.out.size hD
         have htr := treader_any R D E0 m n c a b A xs w2 hS hm0 hm; clear hS hbD hc2 hD)
      | (go_at_call 12; refine htr.mono ?_; rintro e w3 ⟨rv, rfl, ho3, hc3⟩
         have HC3 : Hid (Chg [] w w3) := HC2.out.step hc3 (by simp; exact ⟨HDl.out, HR.out.1⟩); have HO3 : Hid (Own w3 w.heap.size 5 1 rv 32 (vb (mroot sha (segs m xs)))) := ho3.mono HC2.out.size
         have f0 := (H0.out.chg HC3.out (by simp)).cell 0; have f1 := (H1.out.chg HC3.out (by simp)).cell 0; have q3 := (H2.out.chg HC3.out (by simp)).cell 0; clear ho3 hc3)))
  rename (World.cell? _ _ = _ ∧ _) => hHeld; clear hHeld
  obtain ⟨Av, cv, rfl, _⟩ := HO3.out.form
  go_wp2_with fail
  have hB2 := bnew_any A n c w3.drew
  have HE3 : Hid (Er w3 E0 a b) := HE.out.chg HC3.out (by simp)
  have HX3 : Hid (Bs w3 [] (.slice A n c) xs) := HX.out.chg HC3.out (by simp)
  go_region_held3 (fun w' => w'.cell? ⟨B, 0, none⟩ = some (.slice A n c) ∧ w'.cell? ⟨B + 1, 0, none⟩ = some (.int .i64 m) ∧ w'.cell? ⟨B + 2, 0, none⟩ = some (.int .u64 idx))
    (first
      | go_keep
      | exact ⟨f0, f1, f2⟩)
    ((first
      | (go_at_call 13; refine hB2.mono ?_; rintro e w4 ⟨R2, rfl, hR, hbR, hc1⟩; have HC4 : Hid (Chg [] w3 w4) := ⟨hc1.os, hc1.tape, hc1.output, hc1.size, hc1.block⟩; have HR2 : Hid (w3.heap.size ≤ R2 ∧ Blk w4 R2 59 #[.slice A n c, .int .i64 0, .int .i64 (-1)]) := ⟨hR, hbR⟩
         have f0 := (H0.out.chg (HC3.out.trans HC4.out) (by simp)).cell 0; have f1 := (H1.out.chg (HC3.out.trans HC4.out) (by simp)).cell 0; have f2 := (H2.out.chg (HC3.out.trans HC4.out) (by simp)).cell 0; have hcn2 := shanew_any w4; clear hc1 hbR hR)
      | (go_at_call 14; refine hcn2.mono ?_; rintro e w5 ⟨D2, rfl, hD, hbD, hc2⟩; have HC5 : Hid (Chg [] w3 w5) := HC4.out.trans hc2
         have f0 := (H0.out.chg (HC3.out.trans HC5.out) (by simp)).cell 0; have f1 := (H1.out.chg (HC3.out.trans HC5.out) (by simp)).cell 0; have f2 := (H2.out.chg (HC3.out.trans HC5.out) (by simp)).cell 0
         have hS2 := src_of HE3.out HX3.out hl hn0 hn1 hnc HR2.out.1 HR2.out.2 HC4.out hD ⟨_, _, _, hbD⟩ hc2; have HDl2 : Hid (w3.heap.size ≤ D2) := Nat.le_trans HC4.out.size hD
         have htb := tbuild_any R2 D2 E0 m n c idx a b A xs w5 hS2 hm0 hm hi; clear hS2 hbD hc2 hD)
      | (go_at_call 15; refine htb.mono ?_; rintro e w6 ⟨sv, pv, vs6, rfl, ho6, hp6, hb6, hc6⟩
         have HC6 : Hid (Chg [] w3 w6) := HC5.out.step hc6 (by simp; exact ⟨HDl2.out, HR2.out.1⟩); have HO6 : Hid (Own w6 w3.heap.size 5 1 sv 32 (vb (mroot sha (segs m xs)))) := ho6.mono HC5.out.size
         have HP6 : Hid (Own w6 w3.heap.size 22 1 pv ((segs m xs).getD idx [] :: mpath sha (segs m xs) idx).length vs6) := hp6.mono HC5.out.size; have HB6 : Hid (Bss w6 [] vs6 ((segs m xs).getD idx [] :: mpath sha (segs m xs) idx)) := hb6
         have f0 := (H0.out.chg (HC3.out.trans HC6.out) (by simp)).cell 0; have f1 := (H1.out.chg (HC3.out.trans HC6.out) (by simp)).cell 0; have f2 := (H2.out.chg (HC3.out.trans HC6.out) (by simp)).cell 0; clear ho6 hc6 hp6 hb6)))
  rename (World.cell? _ _ = _ ∧ _) => hHeld; clear hHeld
  have HC : Hid (Chg [] w w6) := HC3.out.trans HC6.out
  have HO3b : Hid (Own w6 w.heap.size 5 1 (.slice Av 32 cv) 32 (vb (mroot sha (segs m xs)))) := HO3.out.chg HC6.out (fun _ _ => by simp)
  obtain ⟨As, csz, rfl, _⟩ := HO6.out.form
  have hlen := segs_le hm0 (xs := xs) (by omega)
  have hpl := mpath_len10 hlen hi
  have hseg : ∀ x ∈ segs m xs, x.length ≤ 1000 := by
    intro x hx
    simp only [segs, List.mem_map] at hx
    obtain ⟨j, _, rfl⟩ := hx
    simp; omega
  obtain ⟨gp, op, cp, rfl, hlp, hbp, hgp, hcp⟩ := Own.cells1 HP6.out (by simp)
  have hBl : B + 7 < w.heap.size := H7.out.lt
  have HBL : Hid (B + 7 < w.heap.size) := hBl
  have hcop := copies_any ([B + 3, B + 4, B + 5, B + 6, B + 7] ++ S) gp op _ cp vs6 _ w6.drew hgp hcp HB6.out rfl (by simp; omega) (fun j _ => proof_le hseg (by omega) j) hlp (by have : w.heap.size ≤ w6.heap.size := HC.out.size; intro k hk; show k < w6.heap.size; rcases List.mem_append.1 hk with hk | hk; simp only [List.mem_cons, List.not_mem_nil, or_false] at hk; omega; have := hSl k hk; omega)
  clear hlen hpl hseg hlp hbp hgp hcp hBl f0 f1 f2 q0 q1 q2 q3
  have HS : Hid (w3.heap.size ≤ w6.heap.size ∧ w.heap.size ≤ w3.heap.size) := ⟨HC6.out.size, HC3.out.size⟩
  generalize hN : (segs m xs).length = N at *
  generalize hls : (segs m xs).getD idx [] :: mpath sha (segs m xs) idx = ls at *
  have HN : Hid ((segs m xs).length = N) := hN
  have HLS : Hid ((segs m xs).getD idx [] :: mpath sha (segs m xs) idx = ls) := hls
  clear hN hls
  go_wp2_with fail
  go_region_held3 (fun _ => True) (trivial)
    ((first
      | (go_at_call 16; refine hcop.mono ?_; rintro e w7 ⟨v7, vs7, rfl, ho7, hb7, hc7⟩
         have HC7 : Hid (Chg [] w6 w7) := ⟨hc7.os, hc7.tape, hc7.output, hc7.size, hc7.block⟩
         have HO7 : Hid (Own w7 w6.heap.size 22 1 v7 ls.length vs7) := ho7; have HB7 : Hid (Bss w7 ([B + 3, B + 4, B + 5, B + 6, B + 7] ++ S) vs7 ls) := hb7
         obtain ⟨A7, c7, rfl, _⟩ := ho7.form
         have b3 := H3.out.chg (HC.out.trans HC7.out) (by simp); have b4 := H4.out.chg (HC.out.trans HC7.out) (by simp); have b5 := H5.out.chg (HC.out.trans HC7.out) (by simp); have b6 := H6.out.chg (HC.out.trans HC7.out) (by simp); have b7 := H7.out.chg (HC.out.trans HC7.out) (by simp)
         have p3 := b3.cell 0; have p4 := b4.cell 0; have p5 := b5.cell 0; have p6 := b6.cell 0; have p7 := b7.cell 0
         have z3 := b3.frozen 0; have z4 := b4.frozen 0; have z5 := b5.frozen 0; have z6 := b6.frozen 0; have z7 := b7.frozen 0
         clear ho7 hb7 hc7 b3 b4 b5 b6 b7)))
  go_end0
  have b3 := H3.out.chg (HC.out.trans HC7.out) (by simp)
  have b4 := H4.out.chg (HC.out.trans HC7.out) (by simp)
  have b5 := H5.out.chg (HC.out.trans HC7.out) (by simp)
  have b6 := H6.out.chg (HC.out.trans HC7.out) (by simp)
  have b7 := H7.out.chg (HC.out.trans HC7.out) (by simp)
  have hcz : Chg [B + 3, B + 4, B + 5, B + 6, B + 7] w7 (((((w7.setCell ⟨B + 3, 0, none⟩ (.slice Av 32 cv)).setCell ⟨B + 4, 0, none⟩ (.slice As 32 csz)).setCell ⟨B + 5, 0, none⟩ (.slice A7 ls.length c7)).setCell ⟨B + 6, 0, none⟩ (.int .u64 N)).setCell ⟨B + 7, 0, none⟩ (.bool true)) :=
    ((((((Chg.refl _ w7).setCell (p := ⟨B + 3, 0, none⟩) (.inl (by simp)) _).setCell (p := ⟨B + 4, 0, none⟩) (.inl (by simp)) _).setCell (p := ⟨B + 5, 0, none⟩) (.inl (by simp)) _).setCell (p := ⟨B + 6, 0, none⟩) (.inl (by simp)) _).setCell (p := ⟨B + 7, 0, none⟩) (.inl (by simp)) _)
  have s1 := HC.out.size
  have s2 := HC3.out.size
  have s3 := HC6.out.size
  have hbl := HBL.out
  have hnot : ∀ g, w.heap.size ≤ g → g ∉ [B + 3, B + 4, B + 5, B + 6, B + 7] := fun g hg hm => by
    simp only [List.mem_cons, List.not_mem_nil, or_false] at hm; omega
  have hll : (mpath sha (segs m xs) idx).length + 1 = ls.length := by rw [← HLS.out]; rfl
  rw [HN.out, HLS.out, hll]
  refine ⟨rfl, _, _, _, vs7, ((((b3.set_ 0 _).far (by simp) _).far (by simp) _).far (by simp) _).far (by simp) _, ((((b4.far (by simp) _).set_ 0 _).far (by simp) _).far (by simp) _).far (by simp) _, ((((b5.far (by simp) _).far (by simp) _).set_ 0 _).far (by simp) _).far (by simp) _,
    ((((b6.far (by simp) _).far (by simp) _).far (by simp) _).set_ 0 _).far (by simp) _, ((((b7.far (by simp) _).far (by simp) _).far (by simp) _).far (by simp) _).set_ 0 _,
    (HO3b.out.chg HC7.out (by simp)).chg hcz (fun g hg => hnot g (HO3b.out.lt g hg).1), ((HO6.out.mono s2).chg HC7.out (by simp)).chg hcz (fun g hg => hnot g (by have := (HO6.out.lt g hg).1; omega)),
    (HO7.out.mono s1).chg hcz (fun g hg => hnot g (by have := (HO7.out.lt g hg).1; omega)), HB7.out.chg hcz (fun k hk => .inl (List.mem_append_left _ hk)), ((HC.out.trans HC7.out).mono (by simp)).trans hcz⟩
end Go.Proofs.YtcpeldnikloebaaDoor
