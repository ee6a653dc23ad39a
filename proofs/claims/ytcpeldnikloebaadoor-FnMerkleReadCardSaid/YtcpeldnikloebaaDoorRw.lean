/- impl.MerkleRoot's function. -/
import Derived.Test.YtcpeldnikloebaaDoorPu
import Derived.Test.YtcpeldnikloebaaDoorMr
import Derived.Test.YtcpeldnikloebaaDoorVg
import Derived.Test.YtcpeldnikloebaaDoorRg
set_option linter.unusedVariables false
set_option linter.unusedSimpArgs false
namespace Go.Proofs.YtcpeldnikloebaaDoor
open Go.RowKit Go.Mm Go.Sha Merk

set_option maxHeartbeats 8000000 in
theorem mroot1_any (c0 c1 g o L cap : Nat) (vs : List Value) (ls : List (List Int)) (w : World) (hl : Lin w g o L vs ls) (hL1 : 1 ≤ L) (hL2 : L ≤ 200) (hLc : L ≤ cap)
    (h0 : Blk w c0 24 #[.slice (some ⟨g, o, none⟩) L cap]) (h1 : Blk w c1 22 #[.slice none 0 0]) :
    Calls Tryd.prog 25 #[pt c0, pt c1] w fun e w' => e = .returned (.tuple #[]) ∧ ∃ rv, Blk w' c1 22 #[rv] ∧ Own w' w.heap.size 5 1 rv 32 (vb (mroot sha ls)) ∧ Chg [c1] w w' := by
  obtain ⟨i1, hi1, hy0, hy1, hy2⟩ := info_parts info_u8c
  have HL : Hid (Lin w g o L vs ls) := hl
  have H0 : Hid (Blk w c0 24 #[.slice (some ⟨g, o, none⟩) L cap]) := h0
  have H1 : Hid (Blk w c1 22 #[.slice none 0 0]) := h1
  have hcn := shanew_any w
  clear hl h0 h1
  go_enter Tryd.func25, Tryd.ntmps25
  go_wp2_with (first
    | (go_at_call 14; refine hcn.mono ?_; rintro e w1 ⟨D, rfl, hD, hbD, hc1⟩; have HC1 : Hid (Chg [] w w1) := hc1; have hct := tnew_any D w.heap.size w1 ⟨_, _, _, hbD⟩ hc1.size; clear hbD hc1)
    | (go_at_call 21; refine hct.mono ?_; rintro e w2 ⟨T, rfl, hT, ht, hc2⟩; have HP2 : Hid (Pu w w2 T D false 0 ls 0) := Pu.start ht (HC1.out.trans hc2) (Nat.le_trans HC1.out.size hT) hD; clear ht hc2
       have q0 : w2.cell? ⟨c0, 0, none⟩ = some (.slice (some ⟨g, o, none⟩) L cap) := (H0.out.chg HP2.out.ch (by simp)).cell 0))
  go_loopg [10] L (fun gk v10 wr => ∃ i : Nat, gk = L - i ∧ i ≤ L ∧ v10 = .int .i64 i ∧ Pu w wr T D false 0 ls i)
  case atStart => exact ⟨0, rfl, Nat.zero_le _, rfl, HP2.out⟩
  case round =>
    obtain ⟨i, rfl, hiL, rfl, hP⟩ := hrel
    have HP : Hid (Pu w wr T D false 0 ls i) := hP
    clear hP q0
    rcases Nat.lt_or_ge i L with hlt | hge
    · have hltI : (i : Int) < (L : Int) := by omega
      have hi0' : (0 : Int) ≤ (i : Int) := by omega
      have hwi : IntKind.i64.wrap ((i : Int) + 1) = ((i + 1 : Nat) : Int) := by rw [IntWalk.i64_in _ (by omega)]; omega
      have hli := HL.out.chg HP.out.ch
      have hci := hli.cell i hlt
      have hbi := hli.bs i hlt
      have hln := hli.le i hlt
      have HX : Hid (ls.getD i [] = ls.getD i []) := rfl
      generalize hxe : ls.getD i [] = li at hbi hln HX
      have HXE : Hid (ls.getD i [] = li) := hxe
      clear hxe hli
      obtain ⟨A3, c3, e3, hrd, hby, _⟩ := hbi
      generalize vs.getD i default = vi at *
      subst e3
      have HRD : Hid (Rd wr 1 A3 li.length (vb li)) := hrd
      have HBY : Hid (Bytes li) := hby
      clear hrd hby
      go_wp2_with (first
        | (at_builtin; refine wpList_append_mm _ rfl _ _ 22 rfl wr.heap.size 5 i1 _ 1 1 Tryd.underlying22 hi1 hy0 hy1 hy2 rfl (by omega) (.slice (some ⟨wr.heap.size, 0, none⟩) 0 0) 0 [] rfl (Own.lit wr #[] 0 (Nat.le_refl _) (by simp) rfl) A3 li.length c3 _ rfl (HRD.out.alloc _) (vb_one _) (by simp only [maxLen]; omega) (by omega) (by simp) ?_
           intro v1 w2 hown1 hg1 hat1; rw [Nat.zero_add, List.nil_append] at hown1
           have hcc : Chg [] wr w2 := ((((Chg.refl [] wr).alloc (.cells #[] 5)).mono (by simp)).trans (Chg.of_grown (S := [wr.heap.size]) hg1 (by intro k hk; injection hk with hk; simp [← hk]))).new (Nat.le_refl _)
           have hpu := HP.out.push (by rw [HL.out.len]; exact hlt) (by rw [HL.out.len]; exact hL2) (by omega) hcc hown1 HXE.out (by omega) HBY.out
           obtain ⟨A1, c1, rfl, _⟩ := hown1.form; clear hown1 hg1 hat1 hcc)
        | (go_at_call 23; refine hpu.mono ?_; rintro e w3 ⟨rfl, hP3⟩))
      go_roundg (L - (i + 1))
      case measure => omega
      case rel => exact ⟨i + 1, rfl, hlt, by simp, hP3⟩
    · have hgeI : ¬ (i : Int) < (L : Int) := by omega
      have hiL' : i = ls.length := by rw [HL.out.len]; omega
      have hro := Pu.root (hiL' ▸ HP.out) (by rw [HL.out.len]; exact hL1) (by rw [HL.out.len]; exact hL2)
      clear hiL'
      go_wp2_with (first
        | (go_at_call 26; refine hro.mono ?_; rintro e w3 ⟨rv, rfl, ho3, hc3⟩; obtain ⟨A1, k1, rfl, _⟩ := ho3.form; have HO3 : Hid (Own w3 w.heap.size 5 1 (.slice A1 32 k1) 32 (vb (mroot sha ls))) := ho3; have HC3 : Hid (Chg [] w w3) := hc3
           have q1 : w3.cell? ⟨c1, 0, none⟩ = some (.slice none 0 0) := (H1.out.chg hc3 (by simp)).cell 0; have z1 : w3.frozen? ⟨c1, 0, none⟩ = false := (H1.out.chg hc3 (by simp)).frozen 0; clear ho3 hc3))
      go_end0
      have hs : Chg [c1] w3 (w3.setCell ⟨c1, 0, none⟩ (.slice A1 32 k1)) := (Chg.refl _ w3).setCell (p := ⟨c1, 0, none⟩) (.inl (by simp)) _
      have h1l := H1.out.lt
      exact ⟨rfl, _, (H1.out.chg HC3.out (by simp)).set_ 0 _, HO3.out.chg hs (fun g hg => by have := (HO3.out.lt g hg).1; simp; omega), (HC3.out.mono (by simp)).trans hs⟩

set_option maxHeartbeats 2000000 in
theorem mroot_any (g o L cap : Nat) (vs : List Value) (ls : List (List Int)) (w : World) (hl : Lin w g o L vs ls) (hL1 : 1 ≤ L) (hL2 : L ≤ 200) (hLc : L ≤ cap) :
    Calls Tryd.prog 9 #[.slice (some ⟨g, o, none⟩) L cap] w fun e w' => ∃ v, e = .returned v ∧ Own w' w.heap.size 5 1 v 32 (vb (mroot sha ls)) ∧ Chg [] w w' := by
  have hmf := make_fn
  have HS : Hid (∀ w5, Chg [] w w5 → w5.heap.size = w.heap.size + 2 → Blk w5 w.heap.size 24 #[.slice (some ⟨g, o, none⟩) L cap] → Blk w5 (w.heap.size + 1) 22 #[.slice none 0 0] →
      Calls Tryd.prog 10 #[.func (.func 25) #[] #[pt w.heap.size, pt (w.heap.size + 1)]] w5 fun e w' => e = .returned (.bool true) ∧ ∃ rv, Blk w' (w.heap.size + 1) 22 #[rv] ∧ Own w' (w.heap.size + 3) 5 1 rv 32 (vb (mroot sha ls)) ∧ Chg [] w w') := by
    intro w5 hc hz h0 h1
    have ha : Chg [] w5 (w5.alloc (.cells #[.bool false] 4)) := (Chg.refl [] w5).alloc _
    have hs1 : (w5.alloc (.cells #[.bool false] 4)).heap.size = w.heap.size + 3 := by simp [hz]
    refine (safe_root w.heap.size (w.heap.size + 1) w5 (fun w' => ∃ rv, Blk w' (w.heap.size + 1) 22 #[rv] ∧ Own w' (w.heap.size + 3) 5 1 rv 32 (vb (mroot sha ls)) ∧ Chg [w.heap.size + 1] w5 w')
      ((mroot1_any w.heap.size (w.heap.size + 1) g o L cap vs ls _ ((hl.chg hc).chg ha) hL1 hL2 hLc (h0.alloc _) (h1.alloc _)).mono ?_)).mono ?_
    · rintro e w' ⟨rfl, rv, b1, o1, hc1⟩
      rw [hs1] at o1
      exact ⟨rfl, ⟨rv, b1, o1, (ha.mono (by simp)).trans hc1⟩, (Blk.new w5 _ _).chg hc1 (by simp; omega)⟩
    · rintro e w' ⟨rfl, w1, ⟨rv, b1, o1, hc1⟩, hc2⟩
      rw [hz] at hc2
      exact ⟨rfl, rv, b1.chg hc2 (by simp), o1.chg hc2 (fun g hg => by have := (o1.lt g hg).1; simp; omega), (hc.step hc1 (by simp)).step hc2 (by simp)⟩
  clear hl
  go_enter Tryd.func9, Tryd.ntmps9
  go_wp2_with (first
    | (go_at_call 10; refine (HS.out _ ((((Chg.refl [] w).alloc _).alloc _)) (by simp) ((blk_at _ _ rfl).alloc _) (blk_at _ _ (by simp))).mono ?_
       rintro e w6 ⟨rfl, rv, hb6, ho6, hc6⟩; obtain ⟨A1, k1, rfl, _⟩ := ho6.form; have q8 : w6.cell? ⟨w.heap.size + 1, 0, none⟩ = some (.slice A1 32 k1) := hb6.cell 0; have z8 : w6.frozen? ⟨w.heap.size + 1, 0, none⟩ = false := hb6.frozen 0
       have HO6 : Hid (Own w6 (w.heap.size + 3) 5 1 (.slice A1 32 k1) 32 (vb (mroot sha ls))) := ho6; clear ho6))
  have q9 : (w6.setCell ⟨w.heap.size + 1, 0, none⟩ (.slice A1 32 k1)).cell? ⟨w.heap.size + 1, 0, none⟩ = some (.slice A1 32 k1) := (hb6.set_ 0 _).cell 0
  refine bodyPost_ret (v := .slice A1 32 k1) ?_ rfl ?_
  · simp [results, Tryd.results9, go_sem, q9]
  have hs : Chg [w.heap.size + 1] w6 (w6.setCell ⟨w.heap.size + 1, 0, none⟩ (.slice A1 32 k1)) := (Chg.refl _ w6).setCell (p := ⟨w.heap.size + 1, 0, none⟩) (.inl (by simp)) _
  exact ⟨_, rfl, (HO6.out.chg hs (fun g hg => by have := (HO6.out.lt g hg).1; simp; omega)).mono (by omega), hc6.step hs (by simp)⟩
end Go.Proofs.YtcpeldnikloebaaDoor
