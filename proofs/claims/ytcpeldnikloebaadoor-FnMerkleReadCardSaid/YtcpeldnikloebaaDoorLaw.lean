/- laws.FnMerkleRead walked: true. -/
import Derived.Test.YtcpeldnikloebaaDoorHa
set_option linter.unusedVariables false
set_option linter.unusedSimpArgs false
namespace Go.Proofs.YtcpeldnikloebaaDoor
open Go.RowKit Go.Mm Go.Sha Merk

theorem seg_bs {w : World} {ad : Addr} {n m k e : Nat} {xs : List Int} (hx : Rd w 1 (some ad) n (vb xs)) (hb : Bytes xs) (hl : xs.length = n) (hk : k < n) (he : e = min (k + m) n) (C : Nat) : Bs w [] (.slice (some (ad.add k)) (e - k) C) ((xs.drop k).take m) := by
  have hsl : ((xs.drop k).take m).length = e - k := by simp; omega
  refine ⟨_, _, by rw [hsl], ⟨by rw [vb_len, Nat.mul_one], fun _ => ⟨_, rfl, ?_, fun j u hj => ?_⟩⟩, fun y hy => hb y (List.mem_of_mem_drop (List.mem_of_mem_take hy)), by simp⟩
  · obtain ⟨ad', e', hlt, _⟩ := hx.2 (by omega)
    injection e' with e'; subst e'
    rw [block_add]; exact hlt
  · obtain ⟨ad', e', _, hc⟩ := hx.2 (by omega)
    injection e' with e'; subst e'
    rw [add_add]
    rw [vb_take, vb_drop, List.getElem?_take] at hj
    split at hj
    · rw [List.getElem?_drop] at hj; exact hc _ u hj
    · cases hj

set_option maxRecDepth 20000 in
set_option maxHeartbeats 16000000 in
theorem law_any (n c sg ix : Nat) (A : Option Addr) (xs : List Int) (a b : Addr) (w : World) (he : Er w w.heap.size a b) (hx : Bs w [] (.slice A n c) xs) (hl : xs.length = n) (hnc : n ≤ c) (hsg : sg < 256) (hix : ix < 256) :
    Calls Tryd.prog 3 #[.slice A n c, .int .u8 sg, .int .u8 ix] w fun e w' => e = .returned (.bool true) ∧ Chg [] w w' := by
  have hal := alive_any w
  by_cases h1 : 2147483647 < n
  · have h1I : (2147483647 : Int) < (n : Int) := by omega
    clear he hx hal
    go_enter Tryd.func3, Tryd.ntmps3
    go_wp2_with fail
    go_ret
    exact ⟨rfl, Chg.refl _ _⟩
  have h1I : ¬ (2147483647 : Int) < (n : Int) := by omega
  by_cases h2 : n = 0
  · subst h2
    clear he hx
    go_enter Tryd.func3, Tryd.ntmps3
    go_wp2_with (first | (go_at_call 4; refine hal.mono ?_; rintro e w1 ⟨rfl, hc1⟩))
    go_ret
    exact ⟨rfl, hc1⟩
  have h2I : ¬ (n : Int) = 0 := by omega
  have h2B : ((n : Int) == 0) = false := by simp; omega
  by_cases h3 : 200 < n
  · have h3I : (200 : Int) < (n : Int) := by omega
    clear he hx
    go_enter Tryd.func3, Tryd.ntmps3
    go_wp2_with (first | (go_at_call 4; refine hal.mono ?_; rintro e w1 ⟨rfl, hc1⟩))
    go_ret
    exact ⟨rfl, hc1⟩
  have h3I : ¬ (200 : Int) < (n : Int) := by omega
  by_cases h4 : sg < 1
  · have h4I : (sg : Int) < 1 := by omega
    clear he hx
    go_enter Tryd.func3, Tryd.ntmps3
    go_wp2_with (first | (go_at_call 4; refine hal.mono ?_; rintro e w1 ⟨rfl, hc1⟩))
    go_ret
    exact ⟨rfl, hc1⟩
  have h4I : ¬ (sg : Int) < 1 := by omega
  by_cases h5 : 50 < sg
  · have h5I : (50 : Int) < (sg : Int) := by omega
    clear he hx
    go_enter Tryd.func3, Tryd.ntmps3
    go_wp2_with (first | (go_at_call 4; refine hal.mono ?_; rintro e w1 ⟨rfl, hc1⟩))
    go_ret
    exact ⟨rfl, hc1⟩
  have h5I : ¬ (50 : Int) < (sg : Int) := by omega
  clear hal
  obtain ⟨i0, hi0, hz0, hz1, hz2⟩ := info_parts info_u8s
  obtain ⟨A', c', hxe, hrd, hbytes, _⟩ := hx
  rw [hl] at hxe hrd
  injection hxe with e1 e2 e3
  subst e1; subst e3
  obtain ⟨ad, rfl, hadl, _⟩ := hrd.2 (by omega)
  have hlen := segs_le (m := sg) (by omega) (xs := xs) (by omega)
  have hpos := segs_pos (m := sg) (by omega) (xs := xs) (by omega)
  have hNm : ∀ j, j < (segs sg xs).length ↔ j * sg < n := fun j => by rw [segs_lt (by omega), hl]
  have HNM : Hid (∀ j, j < (segs sg xs).length ↔ j * sg < n) := hNm
  have HE : Hid (Er w w.heap.size a b) := he
  have HX : Hid (Rd w 1 (some ad) n (vb xs)) := hrd
  have HBY : Hid (Bytes xs) := hbytes
  have HSL : Hid (∀ j, j < (segs sg xs).length → (segs sg xs).getD j [] = (xs.drop (j * sg)).take sg) := fun j hj => by
    rw [List.getD_eq_getElem?_getD, segs_at xs hj]; rfl
  obtain ⟨N, hN⟩ : ∃ N, N = (segs sg xs).length := ⟨_, rfl⟩
  have HN : Hid (N = (segs sg xs).length) := hN
  rw [← hN] at hlen hpos
  clear he hrd hbytes hNm hN
  go_enter Tryd.func3, Tryd.ntmps3
  go_wp2_with fail
  go_loopg [7, 8] N (fun gk v7 v8 wr => ∃ (j : Nat) (vs' : List Value), gk = N - j ∧ j ≤ N ∧ v8 = .int .i64 (j * sg : Nat) ∧ Own wr w.heap.size 22 1 v7 j vs' ∧ (∀ k, k < j → vs'.getD k default = .slice (some (ad.add (k * sg))) (min (k * sg + sg) n - k * sg) (c - k * sg)) ∧ Chg [] w wr)
  case atStart => exact ⟨0, [], rfl, Nat.zero_le _, by simp, Own.nil _ _ _ _, fun k hk => by omega, Chg.refl _ _⟩
  case round =>
    obtain ⟨j, vs', rfl, hj, rfl, hown, hbs, hch⟩ := hrel
    obtain ⟨Ao, co, rfl, hco, hcm⟩ := hown.form
    have HO : Hid (Own wr w.heap.size 22 1 (.slice Ao j co) j vs') := hown
    have HB : Hid (∀ k, k < j → vs'.getD k default = .slice (some (ad.add (k * sg))) (min (k * sg + sg) n - k * sg) (c - k * sg)) := hbs
    have HCH : Hid (Chg [] w wr) := hch
    clear hown hbs hch
    have hjm := HNM.out j
    rw [← HN.out] at hjm
    rcases Nat.lt_or_ge j N with hlt | hge
    · have hkn : j * sg < n := hjm.1 hlt
      obtain ⟨k, hk⟩ : ∃ k, k = j * sg := ⟨_, rfl⟩
      obtain ⟨e, he⟩ : ∃ e, e = min (k + sg) n := ⟨_, rfl⟩
      rw [← hk] at hkn ⊢
      have hknI : (k : Int) < (n : Int) := by omega
      have hk0 : (0 : Int) ≤ (k : Int) := by omega
      have hws : IntKind.i64.wrap (sg : Int) = (sg : Int) := IntWalk.i64_in _ (by omega)
      have hwk : IntKind.i64.wrap ((k : Int) + (sg : Int)) = (k : Int) + (sg : Int) := IntWalk.i64_in _ (by omega)
      have hmin : (if (n : Int) < (k : Int) + (sg : Int) then (n : Int) else (k : Int) + (sg : Int)) = (e : Int) := by split <;> omega
      have hke : (k : Int) ≤ (e : Int) := by omega
      have hec : (e : Int) ≤ (c : Int) := by omega
      have hck : ¬ c = k := by omega
      have hckI : ¬ (c : Int) = (k : Int) := by omega
      have HK : Hid (k = j * sg) := hk
      have HEE : Hid (e = min (k + sg) n) := he
      clear hk he hjm
      go_wp2_with (first
        | (at_builtin; refine wpList_append_mm _ rfl _ _ 24 rfl w.heap.size 22 i0 _ 1 24 Tryd.underlying24 hi0 hz0 hz1 hz2 rfl (by omega) (.slice Ao j co) j vs' rfl (HO.out.alloc _) (some ⟨wr.heap.size, 0, none⟩) 1 1 [.slice (some (ad.add k)) (e - k) (c - k)] rfl (Rd.of_blk (Blk.new _ _ _) rfl rfl (Nat.le_refl _)) (by simp [Value.oneCell']) (by simp only [maxLen]; omega) (by omega) (by have := HCH.out.size; simp; omega) ?_
           intro v3 w3 hown3 hg3 hat3))
      have hA : Chg [] wr (wr.alloc (.cells #[.slice (some (ad.add k)) (e - k) (c - k)] 22)) := (Chg.refl [] wr).alloc _
      have hD : Chg (Value.slice Ao j co).ownBlock.toList (wr.alloc (.cells #[.slice (some (ad.add k)) (e - k) (c - k)] 22)) w3 := Chg.of_grown hg3 (by intro k hk; simp [hk])
      have hw3 : Chg [] w w3 := (HCH.out.trans hA).step hD (fun y hy => .inr (HO.out.lt y (by simpa using hy)).1)
      have hkk : ((k : Int) + (sg : Int)) = (((j + 1) * sg : Nat) : Int) := by rw [Nat.add_mul, ← HK.out]; omega
      have hvl : vs'.length = j := by have := HO.out.1; omega
      go_roundg (N - (j + 1))
      case measure => omega
      case rel =>
        refine ⟨j + 1, _, rfl, hlt, by rw [hkk], hown3, ?_, hw3⟩
        intro i hi
        rcases Nat.lt_or_ge i j with h | h
        · have := HB.out i h
          rw [List.getD_eq_getElem?_getD] at this ⊢
          rw [List.getElem?_append_left (by omega)]
          exact this
        · have : i = j := by omega
          subst this
          rw [List.getD_eq_getElem?_getD, List.getElem?_append_right (by omega), hvl, Nat.sub_self, ← HK.out, ← HEE.out]
          rfl
    · have hjN : j = N := by omega
      subst hjN
      have hkn : ¬ j * sg < n := fun h => by have := hjm.2 h; omega
      have hknI : ¬ ((j * sg : Nat) : Int) < (n : Int) := by omega
      generalize j * sg = ke at hknI hkn ⊢
      clear hjm
      by_cases h6 : j ≤ ix
      · have h6I : (j : Int) ≤ (ix : Int) := by omega
        have hwi : IntKind.i64.wrap (ix : Int) = (ix : Int) := IntWalk.i64_in _ (by omega)
        have hal := alive_any wr
        go_wp2_with (first | (go_at_call 4; refine hal.mono ?_; rintro e w1 ⟨rfl, hc1⟩))
        go_ret
        exact ⟨rfl, HCH.out.trans hc1⟩
      · have h6I : ¬ (j : Int) ≤ (ix : Int) := by omega
        have hwi : IntKind.i64.wrap (ix : Int) = (ix : Int) := IntWalk.i64_in _ (by omega)
        have hwu : IntKind.u64.wrap (ix : Int) = (ix : Int) := IntWalk.u64_in _ (by omega)
        have hws : IntKind.i64.wrap (sg : Int) = (sg : Int) := IntWalk.i64_in _ (by omega)
        have hwj : IntKind.u64.wrap (j : Int) = (j : Int) := IntWalk.u64_in _ (by omega)
        have hmr := mread_any w.heap.size sg n c ix a b (some ad) xs wr (HE.out.chg HCH.out (by simp)) ⟨_, _, by rw [hl], by rw [hl]; exact HX.out.chg HCH.out (by simp), HBY.out, by simp⟩ hl (by omega) (by omega) hnc (by omega) (by omega) (by rw [← HN.out]; omega)
        rw [← HN.out] at hmr
        obtain ⟨gl, ol, cl, e9, hll, hbl, hgl, hcl⟩ := Own.cells1 HO.out hpos
        injection e9 with x1 x2 x3
        subst x1
        subst x3
        have hlin : Lin wr gl ol j vs' (segs sg xs) := by
          refine ⟨hgl, hcl, fun i hi => ?_, HN.out.symm, fun i hi => ?_⟩
          · rw [HB.out i hi, HSL.out i (by rw [← HN.out]; exact hi)]
            exact seg_bs (HX.out.chg HCH.out (by simp)) HBY.out hl ((HNM.out i).1 (by rw [← HN.out]; exact hi)) rfl _
          · rw [HSL.out i (by rw [← HN.out]; exact hi)]; simp; omega
        have HLIN : Hid (Lin wr gl ol j vs' (segs sg xs)) := hlin
        clear hlin hbl hgl hcl
        go_wp2_with (first
          | (go_at_call 5; refine hmr.mono ?_; rintro e w1 ⟨rv, sv, pv, vs1, rfl, hro, hc1⟩
             have HR1 : Hid (Rown w1 wr.heap.size sg ix xs rv sv pv vs1) := hro; have HC1 : Hid (Chg [] wr w1) := hc1
             have hsr := specroot_any j gl ol _ vs' (segs sg xs) w1 (HLIN.out.chg hc1) (by omega) (by omega) hll; clear hro hc1)
          | (go_at_call 6; refine hsr.mono ?_; rintro e w2 ⟨v2, rfl, ho2, hc2⟩
             have HC2 : Hid (Chg [] w1 w2) := hc2; have HO2 : Hid (Own w2 w1.heap.size 5 1 v2 32 (vb (mroot sha (segs sg xs)))) := ho2; have hal := alive_any w2; clear ho2 hc2)
          | (go_at_call 4; refine hal.mono ?_; rintro e w3 ⟨rfl, hc3⟩
             have HR3 : Hid (Rown w3 wr.heap.size sg ix xs rv sv pv vs1) := (HR1.out.chg HC2.out (by simp)).chg hc3 (by simp)
             have HO3 : Hid (Own w3 w1.heap.size 5 1 v2 32 (vb (mroot sha (segs sg xs)))) := HO2.out.chg hc3 (fun _ _ => by simp)
             have HC3 : Hid (Chg [] w w3) := ((HCH.out.trans HC1.out).trans HC2.out).trans hc3
             obtain ⟨A2, k2, rfl, _⟩ := HO3.out.form; obtain ⟨Ar, kr, rfl, _⟩ := HR3.out.o1.form; obtain ⟨As, ks, rfl, _⟩ := HR3.out.o2.form
             have cv1 := rd_str (c := k2) HO3.out.rd 9 Tryd.underlying9
             have cv2 := rd_str (c := kr) HR3.out.o1.rd 9 Tryd.underlying9
             have cv3 := rd_str (c := ks) HR3.out.o2.rd 9 Tryd.underlying9
             obtain ⟨gp, op, cp, rfl, hlp, hbp, hgp, hcp⟩ := Own.cells1 HR3.out.o3 (by simp)
             have hmb := mroot_bytes (segs sg xs) (fun e => by have := congrArg List.length e; rw [← HN.out] at this; simp at this; omega)
             have hpl := mpath_len10 (l := segs sg xs) (i := ix) (by rw [← HN.out]; exact hlen) (by rw [← HN.out]; omega)
             have hmv := mverify_any ix j gp op cp _ (.slice Ar 32 kr) (mroot sha (segs sg xs)) ((segs sg xs).getD ix [] :: mpath sha (segs sg xs) ix) vs1 w3
               ⟨Bs.of_own [] HR3.out.o1 hmb.1 (by simp), hmb.2, hgp, hcp, HR3.out.bs.more (by simp), rfl, by simp, by simp; omega, hlp, fun i _ => proof_le (by
                 intro x hx
                 simp only [segs, List.mem_map] at hx
                 obtain ⟨q, _, rfl⟩ := hx
                 simp; omega) (by omega) i, by omega, hlen, by
                 have := verify_path sha (l := segs sg xs) (i := ix) (by rw [← HN.out]; exact hlen) (by rw [← HN.out]; omega)
                 rw [← HN.out] at this
                 exact this⟩
             clear hlp hbp hgp hcp hmb hpl hc3)
          | (go_at_call 7; refine hmv.mono ?_; rintro e w4 ⟨rfl, hc4⟩))
        go_ret
        exact ⟨rfl, HC3.out.trans hc4⟩
end Go.Proofs.YtcpeldnikloebaaDoor
