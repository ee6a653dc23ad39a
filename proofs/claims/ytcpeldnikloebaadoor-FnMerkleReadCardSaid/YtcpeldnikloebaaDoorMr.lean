/- The reference's MerkleRoot walked: it is mroot sha. -/
import Derived.Test.YtcpeldnikloebaaDoorShaR
import Derived.Test.YtcpeldnikloebaaDoorMq
set_option linter.unusedVariables false
set_option linter.unusedSimpArgs false
namespace Go.Proofs.YtcpeldnikloebaaDoor
open Go.RowKit Go.Mm Go.Sha Merk

theorem info_u8m : (Tryd.prog.info? 5).map (fun i => (i.zero, i.size, i.bytes)) = some (some (.int .u8 0), 1, 1) := by kernel_rfl

/-- the leaves, as they lie in memory -/
structure Lin (w : World) (g o L : Nat) (vs : List Value) (ls : List (List Int)) : Prop where
  gl : g < w.heap.size
  cell : ∀ j, j < L → w.cell? ⟨g, o + j, none⟩ = some (vs.getD j default)
  bs : ∀ j, j < L → Bs w [] (vs.getD j default) (ls.getD j [])
  len : ls.length = L
  le : ∀ j, j < L → (ls.getD j []).length ≤ 1000
theorem Lin.chg {w w' : World} {g o L : Nat} {vs : List Value} {ls : List (List Int)} (h : Lin w g o L vs ls) (hc : Chg [] w w') : Lin w' g o L vs ls :=
  ⟨Nat.lt_of_lt_of_le h.gl hc.size, fun j hj => (hc.cell (p := ⟨g, o + j, none⟩) h.gl (by simp)).trans (h.cell j hj), fun j hj => (h.bs j hj).chg hc (by simp), h.len, h.le⟩
theorem Lin.upto {w : World} {g o L : Nat} {vs : List Value} {ls : List (List Int)} (h : Lin w g o L vs ls) {k : Nat} (hk : k ≤ L) : Lin w g o k vs (ls.take k) := by
  have e : ∀ j, j < k → (ls.take k).getD j [] = ls.getD j [] := fun j hj => by
    rw [List.getD_eq_getElem?_getD, List.getD_eq_getElem?_getD, List.getElem?_take, if_pos hj]
  refine ⟨h.gl, fun j hj => h.cell j (by omega), fun j hj => by rw [e j hj]; exact h.bs j (by omega), by rw [List.length_take, h.len]; omega, fun j hj => by rw [e j hj]; exact h.le j (by omega)⟩
theorem Lin.from {w : World} {g o L : Nat} {vs : List Value} {ls : List (List Int)} (h : Lin w g o L vs ls) {k : Nat} (hk : k ≤ L) : Lin w g (o + k) (L - k) (vs.drop k) (ls.drop k) := by
  have e : ∀ j, (ls.drop k).getD j [] = ls.getD (k + j) [] := fun j => by
    rw [List.getD_eq_getElem?_getD, List.getD_eq_getElem?_getD, List.getElem?_drop]
  have e2 : ∀ j, (vs.drop k).getD j default = vs.getD (k + j) default := fun j => by
    rw [List.getD_eq_getElem?_getD, List.getD_eq_getElem?_getD, List.getElem?_drop]
  refine ⟨h.gl, fun j hj => by rw [e2, Nat.add_assoc]; exact h.cell (k + j) (by omega), fun j hj => by rw [e, e2]; exact h.bs (k + j) (by omega), by rw [List.length_drop, h.len], fun j hj => by rw [e]; exact h.le (k + j) (by omega)⟩

set_option maxHeartbeats 8000000 in
theorem specroot_any (L : Nat) : ∀ (g o cap : Nat) (vs : List Value) (ls : List (List Int)) (w : World), Lin w g o L vs ls → 1 ≤ L → L ≤ 250 → L ≤ cap →
    Calls Tryd.prog 6 #[.slice (some ⟨g, o, none⟩) L cap] w fun e w' => ∃ v, e = .returned v ∧ Own w' w.heap.size 5 1 v 32 (vb (mroot sha ls)) ∧ Chg [] w w' := by
  induction L using Nat.strongRecOn with
  | ind L ih =>
  intro g o cap vs ls w hl hL1 hL2 hLc
  obtain ⟨i0, hi0, hz0, hz1, hz2⟩ := info_parts info_u8m
  have HI : Hid _ := ih
  have HL : Hid (Lin w g o L vs ls) := hl
  clear ih hl
  have hLz : ((L : Int) == 0) = false := by simp; omega
  rcases Nat.lt_or_ge 1 L with hgt | hle
  · have hL1I : ((L : Int) == 1) = false := by simp; omega
    go_enter Tryd.func6, Tryd.ntmps6
    go_wp2_with fail
    go_loopg [3] (L - 1) (fun gk v3 wr => ∃ i : Nat, gk = L - 2 ^ i ∧ 2 ^ i < L ∧ v3 = .int .i64 (2 ^ i : Nat) ∧ wr = w)
    case atStart => exact ⟨0, rfl, by simpa using hgt, rfl, rfl⟩
    case round =>
      obtain ⟨i, rfl, hiL, rfl, rfl⟩ := hrel
      obtain ⟨k, hk⟩ : ∃ k, k = 2 ^ i := ⟨_, rfl⟩
      have hk1 : 1 ≤ k := by rw [hk]; exact Nat.pow_pos (by omega)
      rw [← hk] at hiL ⊢
      have HK : Hid (k = 2 ^ i) := hk
      clear hk
      have hw1 : IntKind.i64.wrap (2 * (k : Int)) = ((2 * k : Nat) : Int) := by rw [IntWalk.i64_in _ (by omega)]; omega
      have hw2 : IntKind.i64.wrap ((k : Int) * 2) = ((2 * k : Nat) : Int) := by rw [IntWalk.i64_in _ (by omega)]; omega
      rcases Nat.lt_or_ge (2 * k) L with hlt | hge
      · have hltI : ((2 * k : Nat) : Int) < (L : Int) := by omega
        obtain ⟨k2, hk2⟩ : ∃ k2, k2 = 2 * k := ⟨_, rfl⟩
        rw [← hk2] at hw1 hw2 hltI hlt
        have HK2 : Hid (k2 = 2 * k) := hk2
        clear hk2
        go_wp2_with fail
        go_roundg (L - k2)
        case measure => have := HK2.out; have := HK.out; omega
        case rel => 
          have e : k2 = 2 ^ (i + 1) := by rw [HK2.out, HK.out, Nat.pow_succ]; omega
          exact ⟨i + 1, by rw [e], by rw [← e]; exact hlt, by rw [← e], rfl⟩
      · have hgeI : ¬ ((2 * k : Nat) : Int) < (L : Int) := by omega
        have hhp : hp ls.length = k := by rw [HL.out.len, HK.out]; exact hp_eq (by rw [← HK.out]; exact hiL) (by rw [← HK.out]; exact hge)
        have hroot : mroot sha ls = sha (mroot sha (ls.take k) ++ mroot sha (ls.drop k)) := by rw [mroot_split sha ls (by rw [HL.out.len]; exact hgt), hhp]
        have HR : Hid _ := hroot
        clear hhp hroot
        obtain ⟨k2, hk2⟩ : ∃ k2, k2 = 2 * k := ⟨_, rfl⟩
        rw [← hk2] at hw1 hw2 hgeI
        clear hk2
        go_wp2_with fail
        have hk0 : (0 : Int) ≤ (k : Int) := by omega
        have hkL : (k : Int) ≤ (L : Int) := by omega
        have hkc : (k : Int) ≤ (cap : Int) := by omega
        have hck : ¬ cap = k := by omega
        have hckI : ¬ (cap : Int) = (k : Int) := by omega
        have hb1 := mroot_bytes (ls.take k) (fun e => by have := congrArg List.length e; rw [List.length_take, HL.out.len] at this; simp at this; omega)
        have hb2 := mroot_bytes (ls.drop k) (fun e => by have := congrArg List.length e; rw [List.length_drop, HL.out.len] at this; simp at this; omega)
        have HB1 : Hid _ := hb1
        have HB2 : Hid _ := hb2
        clear hb1 hb2
        have hca := HI.out k (by omega) g o cap vs (ls.take k) wr.drew ((HL.out.upto (k := k) (by omega)).chg ((Chg.refl [] wr).drew)) hk1 (by omega) (by omega)
        go_region_held3 (fun _ => True) (trivial)
          ((first
            | (go_at_call 6; refine hca.mono ?_; rintro e w1 ⟨v1, rfl, ho1, hc1⟩; obtain ⟨A1, c1, rfl, _⟩ := ho1.form; have HO1 : Hid (Own w1 wr.heap.size 5 1 (.slice A1 32 c1) 32 (vb (mroot sha (ls.take k)))) := ho1; have HC1 : Hid (Chg [] wr w1) := ⟨hc1.os, hc1.tape, hc1.output, hc1.size, hc1.block⟩; clear ho1 hc1 hca
               have hcb := HI.out (L - k) (by omega) g (o + k) (cap - k) (vs.drop k) (ls.drop k) w1 ((HL.out.from (by omega)).chg HC1.out) (by omega) (by omega) (by omega))
            | (go_at_call 6; refine hcb.mono ?_; rintro e w2 ⟨v2, rfl, ho2, hc2⟩; obtain ⟨A2, c2, rfl, _⟩ := ho2.form; have HO2 : Hid (Own w2 w1.heap.size 5 1 (.slice A2 32 c2) 32 (vb (mroot sha (ls.drop k)))) := ho2; have HC2 : Hid (Chg [] wr w2) := HC1.out.trans hc2; have HO1b : Hid (Own w2 wr.heap.size 5 1 (.slice A1 32 c1) 32 (vb (mroot sha (ls.take k)))) := HO1.out.chg hc2 (fun _ _ => by simp); clear ho2 hc2 hcb)
            | (refine step_append_mm _ (by rfl) _ _ _ (by rfl) wr.heap.size 5 i0 _ 1 1 Tryd.underlying22 hi0 hz0 hz1 hz2 rfl (by omega) (.slice A1 32 c1) 32 (vb (mroot sha (ls.take k))) (by rfl) HO1b.out A2 32 c2 (vb (mroot sha (ls.drop k))) (by rfl) HO2.out.rd (vb_one _) (by simp [maxLen]) (by omega) HC2.out.size ?_
               intro v3 w3 ho3 hg3 hat3; obtain ⟨A3, c3, rfl, _⟩ := ho3.form; have HO3 : Hid (Own w3 wr.heap.size 5 1 (.slice A3 (32 + 32) c3) (32 + 32) (vb (mroot sha (ls.take k)) ++ vb (mroot sha (ls.drop k)))) := ho3
               have HC3 : Hid (Chg [] wr w3) := HC2.out.step (Chg.of_grown (S := (Value.slice A1 32 c1).ownBlock.toList) hg3 (by intro k hk; simp [hk])) (fun y hy => .inr (HO1.out.lt y (by simpa using hy)).1); clear ho3 hg3 hat3
               have hcs := specsha_any A3 (32 + 32) c3 (mroot sha (ls.take k) ++ mroot sha (ls.drop k)) w3 (by rw [vb_append]; exact HO3.out.rd) (fun x hx => by rcases List.mem_append.1 hx with h | h; exact HB1.out.1 x h; exact HB2.out.1 x h) (by rw [List.length_append, HB1.out.2, HB2.out.2]; omega))
            | (go_at_call 17; refine hcs.mono ?_; rintro e w4 ⟨v4, rfl, ho4, hc4⟩)))
        go_wp2_with fail
        go_ret
        exact ⟨v4, rfl, by rw [HR.out]; exact ho4.mono HC3.out.size, HC3.out.trans hc4⟩
  · have h1 : L = 1 := by omega
    subst h1
    have hc0 := HL.out.cell 0 (by omega)
    rw [Nat.add_zero] at hc0
    have hb0 := HL.out.bs 0 (by omega)
    have hl0 := HL.out.le 0 (by omega)
    have hm : mroot sha ls = sha (ls.getD 0 []) := by
      have hlen := HL.out.len
      match ls, hlen with
      | [x], _ => exact mroot_one sha x
    have HM : Hid (mroot sha ls = sha (ls.getD 0 [])) := hm
    clear hm
    generalize ls.getD 0 [] = l0 at *
    obtain ⟨A0, c0, e0, hrd, hby, _⟩ := hb0
    generalize vs.getD 0 default = v0 at *
    subst e0
    have hcs := specsha_any A0 l0.length c0 l0 w hrd hby (by omega)
    clear hrd hby
    go_enter Tryd.func6, Tryd.ntmps6
    go_wp2_with (first | (go_at_call 17; refine hcs.mono ?_; rintro e w4 ⟨v4, rfl, ho4, hc4⟩))
    go_ret
    exact ⟨v4, rfl, by rw [HM.out]; exact ho4, hc4⟩
end Go.Proofs.YtcpeldnikloebaaDoor
