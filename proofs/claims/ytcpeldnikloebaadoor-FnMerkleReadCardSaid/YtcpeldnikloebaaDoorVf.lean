/- impl.MerkleVerify: a proof that vrun accepts is accepted. -/
import Derived.Test.YtcpeldnikloebaaDoorVe
import Derived.Test.YtcpeldnikloebaaDoorCp
import Derived.Test.YtcpeldnikloebaaDoorSf
import Derived.Laws.Rows
set_option linter.unusedVariables false
set_option linter.unusedSimpArgs false
namespace Go.Proofs.YtcpeldnikloebaaDoor
open Go.RowKit Go.Mm Go.Sha Merk

/-- a proof, as it lies in memory -/
structure Vin (w : World) (rv : Value) (root : List Int) (g o L cap : Nat) (vs : List Value) (ls : List (List Int)) (idx N : Nat) : Prop where
  hroot : Bs w [] rv root
  r32 : root.length = 32
  gl : g < w.heap.size
  cell : ∀ j, j < L → w.cell? ⟨g, o + j, none⟩ = some (vs.getD j default)
  bs : Bss w [] vs ls
  len : ls.length = L
  l1 : 1 ≤ L
  l2 : L ≤ 20
  lc : L ≤ cap
  le : ∀ j, j < L → (ls.getD j []).length ≤ 1000
  hi : idx < N
  hn : N ≤ 200
  hrun : vrun sha idx N 1 idx (sha (ls.getD 0 [])) (ls.drop 1) = some root
theorem Vin.chg {w w' : World} {rv : Value} {root : List Int} {g o L cap : Nat} {vs : List Value} {ls : List (List Int)} {idx N : Nat} (h : Vin w rv root g o L cap vs ls idx N) (hc : Chg [] w w') : Vin w' rv root g o L cap vs ls idx N :=
  ⟨h.hroot.chg hc (by simp), h.r32, Nat.lt_of_lt_of_le h.gl hc.size, fun j hj => (hc.cell (p := ⟨g, o + j, none⟩) h.gl (by simp)).trans (h.cell j hj), h.bs.chg hc (by simp), h.len, h.l1, h.l2, h.lc, h.le, h.hi, h.hn, h.hrun⟩

set_option maxHeartbeats 4000000 in
theorem mverify1_any (c0 c1 c2 c3 c4 idx N g o cap L : Nat) (rv : Value) (root : List Int) (ls : List (List Int)) (vs : List Value) (w : World) (hv : Vin w rv root g o L cap vs ls idx N)
    (h0 : Blk w c0 22 #[rv]) (h1 : Blk w c1 24 #[.slice (some ⟨g, o, none⟩) L cap]) (h2 : Blk w c2 25 #[.int .u64 idx]) (h3 : Blk w c3 25 #[.int .u64 N]) (h4 : Blk w c4 4 #[.bool false]) :
    Calls Tryd.prog 18 #[pt c0, pt c1, pt c2, pt c3, pt c4] w fun e w' => e = .returned (.tuple #[]) ∧ Blk w' c4 4 #[.bool true] ∧ Chg [c4] w w' := by
  have hcn := shanew_any w.drew
  have HV : Hid (Vin w rv root g o L cap vs ls idx N) := hv
  have H0 : Hid (Blk w c0 22 #[rv]) := h0
  have H1 : Hid (Blk w c1 24 #[.slice (some ⟨g, o, none⟩) L cap]) := h1
  have H2 : Hid (Blk w c2 25 #[.int .u64 idx]) := h2
  have H3 : Hid (Blk w c3 25 #[.int .u64 N]) := h3
  have H4 : Hid (Blk w c4 4 #[.bool false]) := h4
  have HL : Hid (c0 < w.heap.size ∧ c1 < w.heap.size ∧ c2 < w.heap.size ∧ c3 < w.heap.size ∧ c4 < w.heap.size) := ⟨h0.lt, h1.lt, h2.lt, h3.lt, h4.lt⟩
  obtain ⟨Ar, cr, rfl, _⟩ := hv.hroot
  have n0 : Hid ((⟨c0, 0, none⟩ : Addr) ≠ ⟨c4, 0, none⟩) := fun e => h0.ne_ h4 (by decide) (by injection e)
  have n1 : Hid ((⟨c1, 0, none⟩ : Addr) ≠ ⟨c4, 0, none⟩) := fun e => h1.ne_ h4 (by decide) (by injection e)
  have n2 : Hid ((⟨c2, 0, none⟩ : Addr) ≠ ⟨c4, 0, none⟩) := fun e => h2.ne_ h4 (by decide) (by injection e)
  have n3 : Hid ((⟨c3, 0, none⟩ : Addr) ≠ ⟨c4, 0, none⟩) := fun e => h3.ne_ h4 (by decide) (by injection e)
  clear hv
  go_enter Tryd.func18, Tryd.ntmps18
  have q0 : w.cell? ⟨c0, 0, none⟩ = some (.slice Ar root.length cr) := h0.cell 0
  have q1 : w.cell? ⟨c1, 0, none⟩ = some (.slice (some ⟨g, o, none⟩) L cap) := h1.cell 0
  have q2 : w.cell? ⟨c2, 0, none⟩ = some (.int .u64 idx) := h2.cell 0
  have q3 : w.cell? ⟨c3, 0, none⟩ = some (.int .u64 N) := h3.cell 0
  clear h0 h1 h2 h3 h4
  go_region_held3 (fun w' => w'.cell? ⟨c0, 0, none⟩ = some (.slice Ar root.length cr) ∧ w'.cell? ⟨c1, 0, none⟩ = some (.slice (some ⟨g, o, none⟩) L cap) ∧ w'.cell? ⟨c2, 0, none⟩ = some (.int .u64 idx) ∧ w'.cell? ⟨c3, 0, none⟩ = some (.int .u64 N))
    (first
      | go_keep
      | exact ⟨f0, f1, f2, f3⟩
      | exact ⟨(World.cell?_setCell_other _ _ _ _ n0.out.symm).trans f0, (World.cell?_setCell_other _ _ _ _ n1.out.symm).trans f1, (World.cell?_setCell_other _ _ _ _ n2.out.symm).trans f2, (World.cell?_setCell_other _ _ _ _ n3.out.symm).trans f3⟩)
    ((first
      | (go_at_call 14; refine hcn.mono ?_; rintro e w1 ⟨D, rfl, hD, hbD, hc1⟩
         have f0 := (H0.out.drew.chg hc1 (by simp)).cell 0; have f1 := (H1.out.drew.chg hc1 (by simp)).cell 0; have f2 := (H2.out.drew.chg hc1 (by simp)).cell 0; have f3 := (H3.out.drew.chg hc1 (by simp)).cell 0
         have HC1 : Hid (Chg [] w w1) := ⟨hc1.os, hc1.tape, hc1.output, hc1.size, hc1.block⟩; have HD1 : Hid (Hs w1 D) := ⟨_, _, _, hbD⟩; have HDl : Hid (w.heap.size ≤ D) := hD; clear hbD hc1 hD)
      | (go_at_call 16; refine (copies_any [D] g o L cap vs ls w1 (Nat.lt_of_lt_of_le HV.out.gl HC1.out.size) (HV.out.chg HC1.out).cell (HV.out.chg HC1.out).bs HV.out.len HV.out.l2 HV.out.le HV.out.lc (by simp; exact HD1.out.lt)).mono ?_
         rintro e w2 ⟨v2, vs2, rfl, ho2, hb2, hc2⟩; obtain ⟨g2, o2, cap2, rfl, hl2, hg2, hgl2, hce2⟩ := Own.cells1 ho2 HV.out.l1
         have HC2 : Hid (Chg [] w w2) := HC1.out.trans hc2; have HD2 : Hid (Hs w2 D) := HD1.out.chg hc2 (by simp)
         have f0 := (H0.out.chg HC2.out (by simp)).cell 0; have f1 := (H1.out.chg HC2.out (by simp)).cell 0; have f2 := (H2.out.chg HC2.out (by simp)).cell 0; have f3 := (H3.out.chg HC2.out (by simp)).cell 0
         have hcv := tverify_any D idx N g2 o2 cap2 L (.slice Ar root.length cr) root ls vs2 w2 HD2.out ((HV.out.hroot.more (T := [D]) (by simp; exact HDl.out)).chg HC2.out (by simp)) HV.out.r32 HV.out.len hgl2 (by have := HD1.out.lt; omega) hce2 (fun j hj => hb2.2 j (by rw [HV.out.len]; exact hj)) HV.out.le HV.out.l1 HV.out.l2 hl2 HV.out.hi HV.out.hn HV.out.hrun
         clear hce2 hb2 hc2 ho2)
      | (go_at_call 19; refine hcv.mono ?_; rintro e w3 ⟨rfl, hc3, hh3⟩
         have HC3 : Hid (Chg [] w w3) := HC2.out.step hc3 (by simp; exact HDl.out)
         have f0 := (H0.out.chg HC3.out (by simp)).cell 0; have f1 := (H1.out.chg HC3.out (by simp)).cell 0; have f2 := (H2.out.chg HC3.out (by simp)).cell 0; have f3 := (H3.out.chg HC3.out (by simp)).cell 0
         have q4 : w3.cell? ⟨c4, 0, none⟩ = some (.bool false) := (H4.out.chg HC3.out (by simp)).cell 0
         have z4 : w3.frozen? ⟨c4, 0, none⟩ = false := (H4.out.chg HC3.out (by simp)).frozen 0; clear hc3 hh3)))
  go_end0
  exact ⟨rfl, (H4.out.chg HC3.out (by simp)).set_ 0 (.bool true), (HC3.out.mono (by simp)).setCell (p := ⟨c4, 0, none⟩) (.inl (by simp)) _⟩
end Go.Proofs.YtcpeldnikloebaaDoor
