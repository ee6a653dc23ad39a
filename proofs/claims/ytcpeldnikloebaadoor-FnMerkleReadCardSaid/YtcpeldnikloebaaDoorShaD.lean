/- The walks of the package's digest: New, Reset, Write, Sum. -/
import Derived.Test.YtcpeldnikloebaaDoorShaB
import Derived.Deep.RegionHeld3
import Derived.Deep.LoopGhost
set_option linter.unusedVariables false
set_option linter.unusedSimpArgs false
namespace Go.Proofs.YtcpeldnikloebaaDoor
open Go.RowKit Go.Mm Go.Sha
/-- bytes as cells -/
def vb (l : List Int) : List Value := l.map (Value.int .u8)
theorem vb_len (l : List Int) : (vb l).length = l.length := by simp [vb]
theorem vb_one (l : List Int) : ∀ u ∈ vb l, u.oneCell' = true := by
  intro u hu
  obtain ⟨x, _, rfl⟩ := List.mem_map.1 hu
  rfl
theorem vb_append (l m : List Int) : vb (l ++ m) = vb l ++ vb m := by simp [vb]
theorem vb_drop (l : List Int) (n : Nat) : vb (l.drop n) = (vb l).drop n := by simp [vb]
theorem vb_take (l : List Int) (n : Nat) : vb (l.take n) = (vb l).take n := by simp [vb]
theorem vb_at (l : List Int) {j : Nat} (h : j < l.length) : (vb l)[j]? = some (.int .u8 (l.getD j 0)) := by
  simp [vb, List.getD_eq_getElem?_getD, List.getElem?_eq_getElem h]
theorem info_u8 : (Tryd.prog.info? 5).map (fun i => (i.zero, i.size, i.bytes)) = some (some (.int .u8 0), 1, 1) := by kernel_rfl

theorem dcells_size (h : H8) (bv nv : Value) : (dcells h bv nv).size = 10 := rfl
set_option maxHeartbeats 1000000 in
theorem shareset_any (D : Nat) (h : H8) (bv nv : Value) (w : World) (hd : Blk w D 63 (dcells h bv nv)) :
    Calls Tryd.prog 29 #[.pointer (some ⟨D, 0, none⟩)] w fun e w' => e = .returned (.tuple #[]) ∧ Blk w' D 63 (dcells IV (.slice none 0 0) (.int .u64 0)) ∧ Chg [D] w w' := by
  go_enter Tryd.func29, Tryd.ntmps29
  go_wp2_with (first
    | (refine at_store_seg 61 _ _ D 0 (by rfl) (vcells IV) (by rfl) 63 _ hd (by kernel_rfl) (by simp [vcells, Value.oneCell']) (by simp [vcells, dcells]) ?_; intro w1 hb1 hc1; rw [show splice (dcells h bv nv) 0 (vcells IV).toList = dcells IV bv nv from rfl] at hb1)
    | (refine at_store_cell 22 _ _ D 8 (by rfl) (.slice none 0 0) (by rfl) (by rfl) 63 _ hb1 (by kernel_rfl) (by simp [dcells]) ?_; intro w2 hb2 hc2; rw [show (dcells IV bv nv).setIfInBounds 8 (.slice none 0 0) = dcells IV (.slice none 0 0) nv from rfl] at hb2)
    | (refine at_store_cell 25 _ _ D 9 (by rfl) (.int .u64 0) (by rfl) (by rfl) 63 _ hb2 (by kernel_rfl) (by simp [dcells]) ?_; intro w3 hb3 hc3))
  go_end0
  exact ⟨rfl, hb3, (hc1.trans hc2).trans hc3⟩

set_option maxHeartbeats 1000000 in
theorem shanew_any (w : World) :
    Calls Tryd.prog 14 #[] w fun e w' => ∃ D, e = .returned (.pointer (some ⟨D, 0, none⟩)) ∧ w.heap.size ≤ D ∧ Blk w' D 63 (dcells IV (.slice none 0 0) (.int .u64 0)) ∧ Chg [] w w' := by
  go_enter Tryd.func14, Tryd.ntmps14
  go_wp2_with (first
    | (refine at_alloc 63 (dcells (fun _ => 0) (.slice none 0 0) (.int .u64 0)) (by kernel_rfl) ?_; intro w1 hb1 hc1 hs1)
    | (go_at_call 29; refine (shareset_any _ _ _ _ _ hb1).mono ?_; rintro e w2 ⟨rfl, hb2, hc2⟩))
  go_ret
  exact ⟨_, rfl, Nat.le_refl _, hb2, hc1.step hc2 (fun k hk => .inr (by simp at hk; omega))⟩

/-- a digest that has taken in the bytes m; bv: its slice of what is left over -/
structure Dg (w : World) (D base : Nat) (bv : Value) (m : List Int) : Prop where
  blk : Blk w D 63 (dcells (absorb IV m (m.length / 64)) bv (.int .u64 m.length))
  own : Own w base 5 1 bv (m.length - 64 * (m.length / 64)) (vb (m.drop (64 * (m.length / 64))))
  bytes : Bytes m
  small : m.length < 1099511627776
  apart : bv.ownBlock ≠ some D
/-- the same in the midst of Write: k blocks of t have been taken in, r bytes are left over -/
structure WInv (w0 w : World) (D base : Nat) (S : List Nat) (bo : Option Nat) (t : List Int) (k r : Nat) (A : Option Addr) (c : Nat) : Prop where
  le : 64 * k + r = t.length
  blk : Blk w D 63 (dcells (absorb IV t k) (.slice A r c) (.int .u64 t.length))
  own : Own w base 5 1 (.slice A r c) r (vb (t.drop (64 * k)))
  apart : (Value.slice A r c).ownBlock ≠ some D
  same : ∀ g, (Value.slice A r c).ownBlock = some g → bo = some g
  chg : Chg S w0 w
theorem Own.one {w : World} {base n size : Nat} {e : TypeId} {v : Value} {xs : List Value} (h : Own w base e size v n xs) : v.oneCell' = true := by
  obtain ⟨A, c, rfl, _⟩ := h.form
  rfl
theorem getD_bd {t : List Int} (ht : Bytes t) (j : Nat) : 0 ≤ t.getD j 0 ∧ t.getD j 0 ≤ 255 := by
  rw [List.getD_eq_getElem?_getD]
  by_cases h : j < t.length
  · rw [List.getElem?_eq_getElem h]; exact ht _ (List.getElem_mem h)
  · rw [List.getElem?_eq_none (by omega)]; simp
theorem drop_bytes {t : List Int} (ht : Bytes t) (n : Nat) : Bytes (t.drop n) := fun x hx => ht x (List.mem_of_mem_drop hx)

theorem WInv.next {w0 wr w4 : World} {D base g o : Nat} {S : List Nat} {bo : Option Nat} {t : List Int} {k r ck : Nat} {bx nx : Value} (hI : WInv w0 wr D base (D :: S) bo t k r (some ⟨g, o, none⟩) ck) (h64 : 64 ≤ r)
    (hb4 : Blk w4 D 63 (dcells (comp (absorb IV t k) fun j => (t.drop (64 * k)).getD j 0) bx (.int .u64 t.length))) (hc4 : Chg [D] wr w4) (_hn : nx = bx) :
    WInv w0 (w4.setCell ⟨D, 8, none⟩ (.slice (if ck = 64 then some ⟨g, o, none⟩ else some ⟨g, o + 64, none⟩) (r - 64) (ck - 64))) D base (D :: S) bo t (k + 1) (r - 64) (if ck = 64 then some ⟨g, o, none⟩ else some ⟨g, o + 64, none⟩) (ck - 64) where
  le := by have := hI.le; omega
  blk := by
    rw [absorb_snoc]
    exact hb4.set_ 8 _
  own := by
    have hcut := hI.own.cut h64
    have e1 : (if ck = 64 then some (⟨g, o, none⟩ : Addr) else (some (⟨g, o, none⟩ : Addr)).map (·.add (64 * 1))) = if ck = 64 then some ⟨g, o, none⟩ else some ⟨g, o + 64, none⟩ := by
      split
      · rfl
      · simp [add_lit]
    have e2 : (vb (t.drop (64 * k))).drop (64 * 1) = vb (t.drop (64 * (k + 1))) := by
      rw [← vb_drop, List.drop_drop]; congr 2
    rw [e1, e2] at hcut
    exact hcut.chg (hc4.setCell (p := ⟨D, 8, none⟩) (.inl (by simp)) _) (fun g' hg' => by
      have : g' = g := by split at hg' <;> (simp only [Value.ownBlock, Option.some.injEq] at hg'; exact hg'.symm)
      subst this
      simp only [List.mem_singleton]
      rintro rfl
      exact hI.apart rfl)
  apart := by
    intro h
    refine hI.apart ?_
    split at h <;> exact h
  same := by
    intro g' h
    refine hI.same g' ?_
    split at h <;> exact h
  chg := (hI.chg.trans (hc4.mono (by simp))).setCell (p := ⟨D, 8, none⟩) (.inl (by simp)) _

set_option maxHeartbeats 4000000 in
theorem shawrite_any (D base : Nat) (A : Option Addr) (n c : Nat) (l m : List Int) (bv : Value) (w : World) (hd : Dg w D base bv m) (hbase : base ≤ w.heap.size) (hr : Rd w 1 A n (vb l)) (hl : Bytes l)
    (hsm : m.length + l.length < 1099511627776) (hA : ∀ ad, A = some ad → 0 < n → ad.block ≠ D) :
    Calls Tryd.prog 59 #[.pointer (some ⟨D, 0, none⟩), .slice A n c] w fun e w' => e = .returned (.tuple #[.int .i64 n, .nilIface]) ∧
      ∃ bv', Dg w' D base bv' (m ++ l) ∧ Chg (D :: bv.ownBlock.toList) w w' ∧ (∀ g, bv'.ownBlock = some g → bv.ownBlock = some g ∨ w.heap.size ≤ g) := by
  obtain ⟨i0, hi0, hz0, hz1, hz2⟩ := info_parts info_u8
  have hn : n = l.length := by have := hr.1; rw [vb_len] at this; omega
  subst hn
  have c9 : w.cell? ⟨D, 9, none⟩ = some (.int .u64 m.length) := hd.blk.cell 9
  have z9 := hd.blk.frozen 9
  have hDw := hd.blk.lt
  have b1 : l.length < 1099511627776 := by omega
  have b2 : m.length < 1099511627776 := hd.small
  go_enter Tryd.func59, Tryd.ntmps59
  go_wp2_with (first
    | (refine at_store_cell 25 _ _ D 9 (by rfl) (.int .u64 ((m.length : Int) + (l.length : Int))) (by rfl) (by rfl) 63 _ hd.blk (by kernel_rfl) (by simp [dcells]) ?_
       intro w1 hb1 hc1
       have e8 : w1.cell? ⟨D, 8, none⟩ = some bv := hb1.cell 8
       have ho1 := hd.own.chg hc1 (fun g hg => by simp; rintro rfl; exact hd.apart hg)
       have hr1 := hr.chg hc1 (fun ad e hn => by simpa using hA ad e hn)
       have hs1 := hc1.size)
    | (at_builtin
       refine wpList_append_mm _ rfl _ _ 22 rfl base 5 i0 _ 1 1 Tryd.underlying22 hi0 hz0 hz1 hz2 rfl (by omega) bv _ _ rfl ho1 A l.length c (vb l) rfl hr1 (vb_one l) (by simp only [maxLen]; omega) (by omega) (by omega) ?_
       intro v1 w2 hown2 hg2 hat2
       have hone := Own.one hown2)
    | (refine at_store_cell 22 _ _ D 8 (by rfl) v1 (by rfl) hone 63 _ (hb1.grown hg2 (fun e => hd.apart e.symm)) (by kernel_rfl) (by simp [dcells]) ?_
       intro w3 hb3 hc3))
  simp only [Act.put]
  obtain ⟨A1, c1, hv1, hle1, hmx1⟩ := hown2.form
  have hI0 : WInv w w3 D base (D :: bv.ownBlock.toList) (Value.ownBlock (.slice A1 (m.length - 64 * (m.length / 64) + l.length) c1)) (m ++ l) (m.length / 64) (m.length - 64 * (m.length / 64) + l.length) A1 c1 := by
    rw [hv1] at hown2 hb3 hat2
    refine ⟨by simp; omega, ?_, ?_, ?_, fun _ h => h, ?_⟩
    · have e : absorb IV (m ++ l) (m.length / 64) = absorb IV m (m.length / 64) := absorb_append _ _ _ _ (by omega)
      rw [e]
      have e2 : ((m ++ l).length : Int) = (m.length : Int) + (l.length : Int) := by simp
      rw [e2]
      exact hb3
    · have e : vb ((m ++ l).drop (64 * (m.length / 64))) = vb (m.drop (64 * (m.length / 64))) ++ vb l := by
        rw [List.drop_append_of_le_length (by omega), vb_append]
      rw [e]
      exact hown2.chg hc3 (fun g hg => by
        simp only [List.mem_singleton]
        rintro rfl
        rcases hat2 with h | h
        · exact hd.apart (h.symm.trans hg)
        · rw [hg] at h; injection h with h; omega)
    · intro hg
      rcases hat2 with h | h
      · exact hd.apart (h.symm.trans hg)
      · rw [hg] at h; injection h with h; omega
    · refine (hc1.mono (by simp)).trans ((Chg.of_grown hg2 ?_).trans (hc3.mono (by simp)))
      intro k hk
      simp [hk]
  have hbo : ∀ g, (Value.slice A1 (m.length - 64 * (m.length / 64) + l.length) c1).ownBlock = some g → bv.ownBlock = some g ∨ w.heap.size ≤ g := by
    intro g hg
    rw [hv1] at hat2
    rcases hat2 with h | h
    · left; rw [← h]; exact hg
    · right; rw [hg] at h; injection h with h; omega
  have hT : Bytes (m ++ l) := by
    intro x hx
    rcases List.mem_append.1 hx with h | h
    · exact hd.bytes x h
    · exact hl x h
  have hTl : (m ++ l).length < 1099511627776 := by simp; omega
  clear hown2 hb3 hat2 hg2 hb1 hc1 hc3 e8 ho1 hr1 hs1 c9 z9 hone
  rw [hv1]
  clear hv1 hle1 hmx1 v1 w1 w2
  generalize Value.ownBlock (.slice A1 (m.length - 64 * (m.length / 64) + l.length) c1) = bo at hI0 hbo
  go_loopg [] ((m ++ l).length / 64 - m.length / 64) (fun gk wr => ∃ k r Ak ck, (m ++ l).length / 64 = k + gk ∧ WInv w wr D base (D :: bv.ownBlock.toList) bo (m ++ l) k r Ak ck)
  case atStart =>
    exact ⟨m.length / 64, _, A1, c1, by have := hI0.le; omega, hI0⟩
  case round =>
    clear hI0
    obtain ⟨k, r, Ak, ck, hk, hI⟩ := hrel
    have e8 : wr.cell? ⟨D, 8, none⟩ = some (.slice Ak r ck) := hI.blk.cell 8
    by_cases h64 : 64 ≤ r
    · have h64' : (64 : Int) ≤ (r : Int) := by omega
      rcases hI.own.2 with ⟨_, h0⟩ | ⟨g, o, cap, cur, hv, hbg, hblk, hrc, hmx, hfit, htk⟩
      · omega
      injection hv with hv1 _ hv2
      subst hv1
      subst hv2
      have hck : (64 : Int) ≤ (ck : Int) := by omega
      have hgD : g ≠ D := fun e => hI.apart (by rw [← e]; rfl)
      have hcell : ∀ j, j < 64 → wr.cell? ⟨g, o + j, none⟩ = some (.int .u8 (((m ++ l).drop (64 * k)).getD j 0)) := fun j hj =>
        hI.own.rd.cellAt (vb_at _ (by have := hI.le; simp only [List.length_drop]; omega)) (by omega)
      have HC : Hid _ := hcell
      clear hcell
      by_cases hc64 : ck = 64
      all_goals
        go_wp2_with (go_at_call 60; refine (block_any D g o _ _ _ _ (fun j => ((m ++ l).drop (64 * k)).getD j 0) _ (absorb_ok IV_ok _ _) (fun j _ => getD_bd (drop_bytes hT _) j) hI.blk hblk.lt hgD HC.out).mono ?_; rintro e w4 ⟨rfl, hc4, hb4⟩; have e84 : w4.cell? ⟨D, 8, none⟩ = some (.slice (some ⟨g, o, none⟩) r ck) := hb4.cell 8; have z84 := hb4.frozen 8)
        have hN := hI.next h64 hb4 hc4 rfl
        simp only [hc64, if_true, if_false] at hN
        go_roundg (gk - 1)
        case measure => have := hI.le; omega
        case rel => exact ⟨k + 1, r - 64, _, _, by have := hI.le; omega, hN⟩
    · have hlt : ¬ (64 : Int) ≤ (r : Int) := by omega
      go_wp2_with fail
      go_ret2
      have hle := hI.le
      have hkk : (m ++ l).length / 64 = k := by omega
      refine ⟨rfl, .slice Ak r ck, ⟨by rw [hkk]; exact hI.blk, by rw [hkk, show (m ++ l).length - 64 * k = r by omega]; exact hI.own, hT, hTl, hI.apart⟩, hI.chg, fun g hg => hbo g (hI.same g hg)⟩
end Go.Proofs.YtcpeldnikloebaaDoor
