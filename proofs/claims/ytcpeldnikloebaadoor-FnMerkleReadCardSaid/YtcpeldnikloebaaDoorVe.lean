/- VerifyProof walked: it answers as vrun does. -/
import Derived.Test.YtcpeldnikloebaaDoorBe
import Derived.Test.YtcpeldnikloebaaDoorTrP
set_option linter.unusedVariables false
set_option linter.unusedSimpArgs false
namespace Go.Proofs.YtcpeldnikloebaaDoor
open Go.RowKit Go.Mm Go.Sha Merk

theorem drop_getD {l : List (List Int)} {j : Nat} (h : j < l.length) : l.drop j = l.getD j [] :: l.drop (j + 1) := by
  rw [List.drop_eq_getElem_cons h, List.getD_eq_getElem?_getD, List.getElem?_eq_getElem h]; rfl

theorem vrun_exit (H : List Int → List Int) {idx n h st : Nat} {c : List Int} {l : List (List Int)} (he : n ≤ idx / 2 ^ h * 2 ^ h + 2 ^ h - 1) : vrun H idx n h st c l = tailV H n st c l := by
  cases l <;> simp only [vrun, if_pos he]

set_option maxRecDepth 20000 in
set_option maxHeartbeats 16000000 in
theorem tverify_any (D idx N g o cap L : Nat) (rv : Value) (root : List Int) (ls : List (List Int)) (vs : List Value) (w : World) (hd : Hs w D) (hroot : Bs w [D] rv root) (hr32 : root.length = 32)
    (hL : ls.length = L) (hg : g < w.heap.size) (hgD : g ≠ D) (hcell : ∀ j, j < L → w.cell? ⟨g, o + j, none⟩ = some (vs.getD j default)) (hbs : ∀ j, j < L → Bs w [D] (vs.getD j default) (ls.getD j []))
    (hlen : ∀ j, j < L → (ls.getD j []).length ≤ 1000) (hL1 : 1 ≤ L) (hL2 : L ≤ 20) (hLc : L ≤ cap) (hidx : idx < N) (hN : N ≤ 200) (hrun : vrun sha idx N 1 idx (sha (ls.getD 0 [])) (ls.drop 1) = some root) :
    Calls Tryd.prog 19 #[hv D, rv, .slice (some ⟨g, o, none⟩) L cap, .int .u64 idx, .int .u64 N] w fun e w' => e = .returned (.bool true) ∧ Chg [D] w w' ∧ Hs w' D := by
  have hcc : ∀ wr : World, Chg [D] w wr → ∀ j, j < L → wr.cell? ⟨g, o + j, none⟩ = some (vs.getD j default) := fun wr hc j hj => (hc.cell (p := ⟨g, o + j, none⟩) hg (by simpa using hgD)).trans (hcell j hj)
  have hbb : ∀ wr : World, Chg [D] w wr → ∀ j, j < L → Bs wr [D] (vs.getD j default) (ls.getD j []) := fun wr hc j hj => (hbs j hj).chg hc (by simp)
  have hrr0 : ∀ wr : World, Chg [D] w wr → Bs wr [D] rv root := fun wr hc => hroot.chg hc (by simp)
  have HRR : Hid (∀ wr : World, Chg [D] w wr → Bs wr [D] rv root) := hrr0
  have HC : Hid (∀ wr : World, Chg [D] w wr → ∀ j, j < L → wr.cell? ⟨g, o + j, none⟩ = some (vs.getD j default)) := hcc
  have HB : Hid (∀ wr : World, Chg [D] w wr → ∀ j, j < L → Bs wr [D] (vs.getD j default) (ls.getD j [])) := hbb
  have HLEN : Hid (∀ j, j < L → (ls.getD j []).length ≤ 1000) := hlen
  have hc00 := hcell 0 hL1
  rw [Nat.add_zero] at hc00
  have hlf := tleaf_any D (vs.getD 0 default) (ls.getD 0 []) w hd (hbs 0 hL1) (by have := hlen 0 hL1; omega)
  obtain ⟨A0, c0, e0, _⟩ := hbs 0 hL1
  have HLE : Hid (ls.length = L) := hL
  obtain ⟨ad, cr, erv⟩ : ∃ ad cr, rv = .slice (some ad) 32 cr := by
    obtain ⟨A1, c1, e1, hrd, _⟩ := hroot
    rw [hr32] at e1 hrd
    obtain ⟨ad, rfl, _⟩ := hrd.2 (by omega)
    exact ⟨ad, c1, e1⟩
  subst erv
  have hnil := fun w => Go.Lib.run_eql_slice_some_nil (P := Tryd.prog) w (t := 22) ad 32 cr Tryd.underlying22
  have hiN : ¬ (N : Int) ≤ (idx : Int) := by omega
  have hL0 : ¬ (L : Int) ≤ 0 := by omega
  have hL0' : (0 : Int) < (L : Int) := by omega
  have HRUN : Hid (vrun sha idx N 1 idx (sha (ls.getD 0 [])) (ls.drop 1) = some root) := hrun
  clear hcc hbb hrr0 hlen hcell hbs hroot hrun hL
  generalize ls.getD 0 [] = l0 at *
  generalize vs.getD 0 default = v0 at *
  subst e0
  go_enter Tryd.func19, Tryd.ntmps19
  go_wp2_with (first | (go_at_call 32; refine hlf.mono ?_; rintro e w1 ⟨r1, rfl, ho1, hc1, hh1⟩; obtain ⟨A1, c1, rfl, _⟩ := ho1.form; have HO1 : Hid _ := ho1; clear ho1))
  go_loopg [11, 12, 13] L (fun gk v11 v12 v13 wr => ∃ (h st : Nat) (c : List Int), gk = L + 1 - h ∧ 1 ≤ h ∧ h ≤ L ∧ v11 = .int .i64 h ∧ v13 = .int .u64 st ∧ st < 100000 ∧ Bs wr [D] v12 c ∧ c.length ≤ 100 ∧ vrun sha idx N h st c (ls.drop h) = some root ∧ Chg [D] w wr ∧ Hs wr D)
  case atStart =>
    exact ⟨1, idx, _, rfl, Nat.le_refl _, hL1, rfl, rfl, by omega, Bs.of_own [D] HO1.out (sha_bytes _) (by simp; exact hd.lt), by rw [sha_len]; omega, HRUN.out, hc1, hh1⟩
  case round =>
    obtain ⟨h, st, c, rfl, hh1', hhL, rfl, rfl, hst, hbc, hcl, hV, hch, hhs⟩ := hrel
    clear hc1 hh1 HO1
    obtain ⟨gg, hgg⟩ : ∃ gg, h = gg + 1 := ⟨h - 1, by omega⟩
    have hp2 : 2 ^ h ≤ 1048576 := by have := Nat.pow_le_pow_right (n := 2) (by omega) (show h ≤ 20 by omega); omega
    have hp1 : 1 ≤ 2 ^ h := Nat.pow_pos (by omega)
    have hpg : 2 ^ gg ≤ 1048576 := by have := Nat.pow_le_pow_right (n := 2) (by omega) (show gg ≤ 20 by omega); omega
    obtain ⟨Pg, hPg⟩ : ∃ Pg, Pg = 2 ^ gg := ⟨_, rfl⟩
    have hwg : IntKind.u64.wrap (2 ^ gg) = (Pg : Int) := by
      rw [← hPg] at hpg
      rw [show (2 ^ gg : Int) = (Pg : Int) by rw [hPg]; norm_cast]; exact IntWalk.u64_in _ (by omega)
    obtain ⟨M, hM⟩ : ∃ M : Int, M = 2 ^ h := ⟨_, rfl⟩
    have hMN : M = ((2 ^ h : Nat) : Int) := by rw [hM]; norm_cast
    have hw1 : IntKind.u64.wrap (2 ^ h) = M := by rw [← hM]; exact IntWalk.u64_in _ (by omega)
    have hq0 : idx / 2 ^ h ≤ idx := Nat.div_le_self _ _
    have hq1 : idx / 2 ^ h * 2 ^ h ≤ idx := Nat.div_mul_le_self _ _
    have hq : IntKind.u64.wrap ((idx : Int) / M) = ((idx / 2 ^ h : Nat) : Int) := by
      rw [hMN, ← Int.natCast_ediv]; exact IntWalk.u64_in _ ⟨Int.le_trans (by decide) (Int.natCast_nonneg _), Int.le_trans (Int.ofNat_le.2 (Nat.le_trans hq0 (show idx ≤ 200 by omega))) (by decide)⟩
    have hr : IntKind.u64.wrap (((idx / 2 ^ h : Nat) : Int) * M) = ((idx / 2 ^ h * 2 ^ h : Nat) : Int) := by
      rw [hMN, ← Int.natCast_mul]; exact IntWalk.u64_in _ ⟨Int.le_trans (by decide) (Int.natCast_nonneg _), Int.le_trans (Int.ofNat_le.2 (Nat.le_trans hq1 (show idx ≤ 200 by omega))) (by decide)⟩
    have hM0 : ¬ M = 0 := by rw [hMN]; omega
    have HV : Hid (vrun sha idx N h st c (ls.drop h) = some root) := hV
    have hEe : idx / 2 ^ h * 2 ^ h + 2 ^ h - 1 < 2000000 := by omega
    have ha1 : IntKind.u64.wrap (((idx / 2 ^ h * 2 ^ h : Nat) : Int) + M) = ((idx / 2 ^ h * 2 ^ h + 2 ^ h : Nat) : Int) := by
      rw [hMN, ← Int.natCast_add]; exact IntWalk.u64_in _ (by omega)
    have ha2 : IntKind.u64.wrap (((idx / 2 ^ h * 2 ^ h + 2 ^ h : Nat) : Int) - 1) = ((idx / 2 ^ h * 2 ^ h + 2 ^ h - 1 : Nat) : Int) := by
      rw [show ((idx / 2 ^ h * 2 ^ h + 2 ^ h : Nat) : Int) - 1 = ((idx / 2 ^ h * 2 ^ h + 2 ^ h - 1 : Nat) : Int) by omega]; exact IntWalk.u64_in _ (by omega)
    have hsub : IntKind.u64.wrap ((idx : Int) - ((idx / 2 ^ h * 2 ^ h : Nat) : Int)) = ((idx - idx / 2 ^ h * 2 ^ h : Nat) : Int) := by
      rw [← Int.ofNat_sub hq1]; exact IntWalk.u64_in _ (by omega)
    have hwi1 : IntKind.i64.wrap ((h : Int) - 1) = (gg : Int) := by rw [IntWalk.i64_in _ (by omega)]; omega
    have hwi : IntKind.i64.wrap ((h : Int) + 1) = ((h + 1 : Nat) : Int) := by rw [IntWalk.i64_in _ (by omega)]; omega
    have hwN : IntKind.u64.wrap ((N : Int) - 1) = ((N - 1 : Nat) : Int) := by rw [IntWalk.u64_in _ (by omega)]; omega
    have hh0' : ¬ (h : Int) < 0 := by omega
    have hgg0 : ¬ (gg : Int) < 0 := by omega
    have hwu : IntKind.u64.wrap (gg : Int) = (gg : Int) := IntWalk.u64_in _ (by omega)
    have hmin : min gg 64 = gg := by omega
    have HGG : Hid (h = gg + 1) := hgg
    obtain ⟨R, hRe⟩ : ∃ R, R = idx / 2 ^ h * 2 ^ h := ⟨_, rfl⟩
    obtain ⟨E1, hEr⟩ : ∃ E1, E1 = idx / 2 ^ h * 2 ^ h + 2 ^ h := ⟨_, rfl⟩
    obtain ⟨E, hE⟩ : ∃ E, E = idx / 2 ^ h * 2 ^ h + 2 ^ h - 1 := ⟨_, rfl⟩
    obtain ⟨X, hX⟩ : ∃ X, X = idx - idx / 2 ^ h * 2 ^ h := ⟨_, rfl⟩
    rw [← hE] at ha2 hEe
    rw [← hEr] at ha1 ha2
    rw [← hX] at hsub
    rw [← hRe] at hr ha1 hsub
    generalize idx / 2 ^ h = Qq at hq hr
    have HRE : Hid (R = idx / 2 ^ h * 2 ^ h) := hRe
    have HE : Hid (E = idx / 2 ^ h * 2 ^ h + 2 ^ h - 1) := hE
    have HX : Hid (X = idx - idx / 2 ^ h * 2 ^ h) := hX
    have HPG : Hid (Pg = 2 ^ gg) := hPg
    clear hV hMN hM hp2 hp1 hpg hq0 hq1 hRe hE hX hPg hEr hgg
    have HBC : Hid _ := hbc
    obtain ⟨A2, c2, e2, _⟩ := hbc
    subst e2
    rcases Nat.lt_or_ge E N with hEN | hEN
    · have hENI : ¬ (N : Int) ≤ (E : Int) := by omega
      have hlt : h < L := by
        rcases Nat.lt_or_ge h L with h1 | h1
        · exact h1
        · have hV := HV.out
          rw [List.drop_eq_nil_of_le (by rw [HLE.out]; exact h1)] at hV
          simp only [vrun, ← HE.out] at hV
          rw [if_neg (by omega)] at hV
          cases hV
      have hltI : (h : Int) < (L : Int) := by omega
      have hll : ¬ (L : Int) ≤ (h : Int) := by omega
      have hV := HV.out
      rw [drop_getD (show h < ls.length by rw [HLE.out]; exact hlt)] at hV
      have hER : E = R + 2 ^ h - 1 := by rw [HE.out, ← HRE.out]
      simp only [vrun, ← HRE.out, ← hER] at hV
      clear hER
      rw [if_neg (by omega), show h - 1 = gg by rw [HGG.out]; rfl, ← HPG.out] at hV
      have hci := HC.out wr hch h hlt
      have hbi := HB.out wr hch h hlt
      have hln := HLEN.out h hlt
      generalize ls.getD h [] = lh at *
      have HBI : Hid _ := hbi
      obtain ⟨A3, c3, e3, _⟩ := hbi
      generalize vs.getD h default = vh at *
      subst e3
      have HXR : Hid (X = idx - R) := by show X = idx - R; rw [HX.out, HRE.out]
      by_cases hdir : X < Pg
      · have hdI : (X : Int) < (Pg : Int) := by omega
        rw [← HXR.out, if_pos hdir] at hV
        have HV2 : Hid _ := hV
        have hcn := tnode_any D _ _ c lh wr hhs HBC.out HBI.out (by omega)
        clear hV
        go_wp2_with (first | (go_at_call 33; refine hcn.mono ?_; rintro e w3 ⟨r3, rfl, ho3, hc3, hh3⟩; have HO3 : Hid _ := ho3; clear ho3))
        go_roundg (L + 1 - (h + 1))
        case measure => omega
        case rel => exact ⟨h + 1, E, _, rfl, by omega, hlt, rfl, rfl, by omega, Bs.of_own [D] HO3.out (sha_bytes _) (by simp; exact hhs.lt), by rw [sha_len]; omega, HV2.out, hch.trans hc3, hh3⟩
      · have hdI : ¬ (X : Int) < (Pg : Int) := by omega
        rw [← HXR.out, if_neg hdir] at hV
        have HV2 : Hid _ := hV
        have hcn := tnode_any D _ _ lh c wr hhs HBI.out HBC.out (by omega)
        clear hV
        go_wp2_with (first | (go_at_call 33; refine hcn.mono ?_; rintro e w3 ⟨r3, rfl, ho3, hc3, hh3⟩; have HO3 : Hid _ := ho3; clear ho3))
        go_roundg (L + 1 - (h + 1))
        case measure => omega
        case rel => exact ⟨h + 1, E, _, rfl, by omega, hlt, rfl, rfl, by omega, Bs.of_own [D] HO3.out (sha_bytes _) (by simp; exact hhs.lt), by rw [sha_len]; omega, HV2.out, hch.trans hc3, hh3⟩
    · have hENI : (N : Int) ≤ (E : Int) := by omega
      have hV := HV.out
      rw [vrun_exit sha (by rw [← HE.out]; exact hEN)] at hV
      unfold tailV at hV
      generalize N - 1 = N1 at *
      by_cases hst' : st = N1
      · rw [if_pos hst'] at hV
        have HF0 : Hid (foldL sha c (ls.drop h) = root) := Option.some.inj hV
        subst hst'
        clear hV
        go_wp2_with fail
        go_loopg [11, 12] (L - (h)) (fun gk v11 v12 wr2 => ∃ (h : Nat) (c : List Int), gk = L - h ∧ h ≤ L ∧ v11 = .int .i64 h ∧ Bs wr2 [D] v12 c ∧ c.length ≤ 100 ∧ foldL sha c (ls.drop h) = root ∧ Chg [D] w wr2 ∧ Hs wr2 D)
        case atStart => exact ⟨h, c, rfl, hhL, rfl, HBC.out, hcl, HF0.out, hch, hhs⟩
        case round =>
          obtain ⟨h2, c', rfl, hhL2, rfl, hbc2, hcl2, hF, hch2, hhs2⟩ := hrel
          rcases Nat.lt_or_ge h2 L with hlt2 | hge2
          · have hltI2 : (h2 : Int) < (L : Int) := by omega
            have hh02 : ¬ (h2 : Int) < 0 := by omega
            have hll2 : ¬ (L : Int) ≤ (h2 : Int) := by omega
            have hci2 := HC.out wr hch2 h2 hlt2
            have hbi2 := HB.out wr hch2 h2 hlt2
            have hln2 := HLEN.out h2 hlt2
            have hwi2 : IntKind.i64.wrap ((h2 : Int) + 1) = ((h2 + 1 : Nat) : Int) := by rw [IntWalk.i64_in _ (by omega)]; omega
            rw [drop_getD (show h2 < ls.length by rw [HLE.out]; exact hlt2)] at hF
            simp only [foldL] at hF
            generalize ls.getD h2 [] = lh2 at *
            have HBI2 : Hid _ := hbi2
            obtain ⟨A4, c4, e4, _⟩ := hbi2
            generalize vs.getD h2 default = vh2 at *
            subst e4
            have HF : Hid _ := hF
            have HBC2 : Hid _ := hbc2
            obtain ⟨A5, c5, rfl, _⟩ := hbc2
            have hcn2 := tnode_any D _ _ lh2 c' wr hhs2 HBI2.out HBC2.out (by omega)
            clear hF
            go_wp2_with (first | (go_at_call 33; refine hcn2.mono ?_; rintro e w4 ⟨r4, rfl, ho4, hc4, hh4⟩; have HO4 : Hid _ := ho4; clear ho4))
            go_roundg (L - (h2 + 1))
            case measure => omega
            case rel => exact ⟨h2 + 1, _, rfl, hlt2, rfl, Bs.of_own [D] HO4.out (sha_bytes _) (by simp; exact hhs2.lt), by rw [sha_len]; omega, HF.out, hch2.trans hc4, hh4⟩
          · have hge2' : ¬ (h2 : Int) < (L : Int) := by omega
            have hrr := HRR.out wr hch2
            rw [List.drop_eq_nil_of_le (by rw [HLE.out]; exact hge2)] at hF
            simp only [foldL] at hF
            have hcb := beq_same _ _ _ _ _ wr hbc2 (by rw [hF]; exact hrr)
            obtain ⟨A5, c5, rfl, _⟩ := hbc2
            clear hrr
            have HF : Hid _ := hF
            clear hF
            go_wp2_with (first | (go_at_call 34; refine hcb.mono ?_; rintro e w4 ⟨rfl, rfl⟩))
            go_ret
            exact ⟨rfl, hch2, hhs2⟩
      · rw [if_neg hst'] at hV
        have hstI : ¬ (st : Int) = (N1 : Int) := by omega
        have hstB : ((st : Int) == (N1 : Int)) = false := by simp; omega
        have hlt : h < L := by
          rcases Nat.lt_or_ge h L with h1 | h1
          · exact h1
          · rw [List.drop_eq_nil_of_le (by rw [HLE.out]; exact h1)] at hV
            cases hV
        have hltI : (h : Int) < (L : Int) := by omega
        have hll : ¬ (L : Int) ≤ (h : Int) := by omega
        rw [drop_getD (show h < ls.length by rw [HLE.out]; exact hlt)] at hV
        have hci := HC.out wr hch h hlt
        have hbi := HB.out wr hch h hlt
        have hln := HLEN.out h hlt
        generalize ls.getD h [] = lh at *
        have HBI : Hid _ := hbi
        obtain ⟨A3, c3, e3, _⟩ := hbi
        generalize vs.getD h default = vh at *
        subst e3
        have HF0 : Hid (foldL sha (sha (c ++ lh)) (ls.drop (h + 1)) = root) := Option.some.inj hV
        have hcn := tnode_any D _ _ c lh wr hhs HBC.out HBI.out (by omega)
        clear hV
        go_wp2_with (first | (go_at_call 33; refine hcn.mono ?_; rintro e w3 ⟨r3, rfl, ho3, hc3, hh3⟩; obtain ⟨A6, c6, rfl, _⟩ := ho3.form; have HO3 : Hid _ := ho3; clear ho3))
        go_loopg [11, 12] (L - (h + 1)) (fun gk v11 v12 wr2 => ∃ (h : Nat) (c : List Int), gk = L - h ∧ h ≤ L ∧ v11 = .int .i64 h ∧ Bs wr2 [D] v12 c ∧ c.length ≤ 100 ∧ foldL sha c (ls.drop h) = root ∧ Chg [D] w wr2 ∧ Hs wr2 D)
        case atStart => exact ⟨h + 1, _, rfl, hlt, rfl, Bs.of_own [D] HO3.out (sha_bytes _) (by simp; exact hhs.lt), by rw [sha_len]; omega, HF0.out, hch.trans hc3, hh3⟩
        case round =>
          obtain ⟨h2, c', rfl, hhL2, rfl, hbc2, hcl2, hF, hch2, hhs2⟩ := hrel
          rcases Nat.lt_or_ge h2 L with hlt2 | hge2
          · have hltI2 : (h2 : Int) < (L : Int) := by omega
            have hh02 : ¬ (h2 : Int) < 0 := by omega
            have hll2 : ¬ (L : Int) ≤ (h2 : Int) := by omega
            have hci2 := HC.out wr hch2 h2 hlt2
            have hbi2 := HB.out wr hch2 h2 hlt2
            have hln2 := HLEN.out h2 hlt2
            have hwi2 : IntKind.i64.wrap ((h2 : Int) + 1) = ((h2 + 1 : Nat) : Int) := by rw [IntWalk.i64_in _ (by omega)]; omega
            rw [drop_getD (show h2 < ls.length by rw [HLE.out]; exact hlt2)] at hF
            simp only [foldL] at hF
            generalize ls.getD h2 [] = lh2 at *
            have HBI2 : Hid _ := hbi2
            obtain ⟨A4, c4, e4, _⟩ := hbi2
            generalize vs.getD h2 default = vh2 at *
            subst e4
            have HF : Hid _ := hF
            have HBC2 : Hid _ := hbc2
            obtain ⟨A5, c5, rfl, _⟩ := hbc2
            have hcn2 := tnode_any D _ _ lh2 c' wr hhs2 HBI2.out HBC2.out (by omega)
            clear hF
            go_wp2_with (first | (go_at_call 33; refine hcn2.mono ?_; rintro e w4 ⟨r4, rfl, ho4, hc4, hh4⟩; have HO4 : Hid _ := ho4; clear ho4))
            go_roundg (L - (h2 + 1))
            case measure => omega
            case rel => exact ⟨h2 + 1, _, rfl, hlt2, rfl, Bs.of_own [D] HO4.out (sha_bytes _) (by simp; exact hhs2.lt), by rw [sha_len]; omega, HF.out, hch2.trans hc4, hh4⟩
          · have hge2' : ¬ (h2 : Int) < (L : Int) := by omega
            have hrr := HRR.out wr hch2
            rw [List.drop_eq_nil_of_le (by rw [HLE.out]; exact hge2)] at hF
            simp only [foldL] at hF
            have hcb := beq_same _ _ _ _ _ wr hbc2 (by rw [hF]; exact hrr)
            obtain ⟨A5, c5, rfl, _⟩ := hbc2
            clear hrr
            have HF : Hid _ := hF
            clear hF
            go_wp2_with (first | (go_at_call 34; refine hcb.mono ?_; rintro e w4 ⟨rfl, rfl⟩))
            go_ret
            exact ⟨rfl, hch2, hhs2⟩
end Go.Proofs.YtcpeldnikloebaaDoor
