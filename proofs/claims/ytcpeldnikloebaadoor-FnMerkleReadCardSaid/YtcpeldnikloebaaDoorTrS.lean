/- The walks of the tree's sums: sum, leafSum, nodeSum, joinSubTrees. -/
import Derived.Test.YtcpeldnikloebaaDoorShaS
import Derived.WalkSpells
import Derived.Deep.RegionHeld3
import Derived.Deep.LoopGhost
set_option linter.unusedVariables false
set_option linter.unusedSimpArgs false
namespace Go.Proofs.YtcpeldnikloebaaDoor
open Go.RowKit Go.Mm Go.Sha

/-- a slice of bytes that reads as l, its block none of S -/
def Bs (w : World) (S : List Nat) (v : Value) (l : List Int) : Prop :=
  ∃ A c, v = .slice A l.length c ∧ Rd w 1 A l.length (vb l) ∧ Bytes l ∧ ∀ ad, A = some ad → 0 < l.length → ad.block ∉ S
theorem Bs.chg {w w' : World} {S T : List Nat} {v : Value} {l : List Int} (h : Bs w S v l) (hc : Chg T w w') (hs : ∀ k ∈ T, k ∈ S ∨ w.heap.size ≤ k) : Bs w' S v l := by
  obtain ⟨A, c, e, hr, hb, ha⟩ := h
  refine ⟨A, c, e, hr.chg hc fun ad e1 e2 hm => ?_, hb, ha⟩
  rcases hs _ hm with h | h
  · exact ha ad e1 e2 h
  · obtain ⟨ad', e', hlt, _⟩ := hr.2 e2
    rw [e1] at e'; injection e' with e'; subst e'
    omega
theorem Bs.drewN {w : World} {S : List Nat} {v : Value} {l : List Int} (h : Bs w S v l) (n : Nat) : Bs (w.drewN n) S v l := h
theorem Bs.more {w : World} {S T : List Nat} {v : Value} {l : List Int} (h : Bs w S v l) (hs : ∀ k ∈ T, k ∈ S ∨ w.heap.size ≤ k) : Bs w T v l := by
  obtain ⟨A, c, e, hr, hb, ha⟩ := h
  refine ⟨A, c, e, hr, hb, fun ad e1 e2 hm => ?_⟩
  rcases hs _ hm with h | h
  · exact ha ad e1 e2 h
  · obtain ⟨ad', e', hlt, _⟩ := hr.2 e2
    rw [e1] at e'; injection e' with e'; subst e'
    omega
theorem Bs.of_own {w : World} {base n : Nat} {v : Value} {l : List Int} (S : List Nat) (h : Own w base 5 1 v n (vb l)) (hl : Bytes l) (hs : ∀ k ∈ S, k < base) : Bs w S v l := by
  obtain ⟨A, c, rfl, _⟩ := h.form
  have hn : n = l.length := by have := h.1; rw [vb_len] at this; omega
  subst hn
  refine ⟨A, c, rfl, h.rd, hl, fun ad e hn hm => ?_⟩
  subst e
  have := (h.lt ad.block (by simp [Value.ownBlock])).1
  have := hs _ hm
  omega
theorem Bs.one {w : World} {S : List Nat} {v : Value} {l : List Int} (h : Bs w S v l) : v.oneCell' = true := by
  obtain ⟨A, c, rfl, _⟩ := h; rfl

/-- a digest in any state -/
def Hs (w : World) (D : Nat) : Prop := ∃ h bv nv, Blk w D 63 (dcells h bv nv)
theorem Hs.chg {w w' : World} {D : Nat} {S : List Nat} (h : Hs w D) (hc : Chg S w w') (hd : D ∉ S) : Hs w' D := by
  obtain ⟨a, b, c, h⟩ := h
  exact ⟨a, b, c, h.chg hc hd⟩
theorem Hs.lt {w : World} {D : Nat} (h : Hs w D) : D < w.heap.size := by
  obtain ⟨a, b, c, h⟩ := h
  exact h.lt
theorem Dg.hs {w : World} {D base : Nat} {bv : Value} {m : List Int} (h : Dg w D base bv m) : Hs w D := ⟨_, _, _, h.blk⟩
abbrev hv (D : Nat) : Value := .iface 40 (.pointer (some ⟨D, 0, none⟩))

theorem m_reset (D : Nat) (w : World) : (method 203 40 (.pointer (some ⟨D, 0, none⟩)) "Reset").run Tryd.prog w = .ok (29, .pointer (some ⟨D, 0, none⟩)) w := by kernel_rfl
theorem m_write (D : Nat) (w : World) : (method 203 40 (.pointer (some ⟨D, 0, none⟩)) "Write").run Tryd.prog w = .ok (59, .pointer (some ⟨D, 0, none⟩)) w := by kernel_rfl
theorem m_sum (D : Nat) (w : World) : (method 203 40 (.pointer (some ⟨D, 0, none⟩)) "Sum").run Tryd.prog w = .ok (58, .pointer (some ⟨D, 0, none⟩)) w := by kernel_rfl

theorem flat_take (ls : List (List Int)) (k : Nat) (h : k < ls.length) : (ls.take (k + 1)).flatten = (ls.take k).flatten ++ ls.getD k [] := by
  rw [List.take_add_one, List.flatten_append, List.getD_eq_getElem?_getD, List.getElem?_eq_getElem h]
  simp
theorem flat_take_len (ls : List (List Int)) (k : Nat) (h : k < ls.length) : (ls.take k).flatten.length + (ls.getD k []).length ≤ ls.flatten.length := by
  have h1 := flat_take ls k h
  have h2 : ls.flatten = (ls.take (k + 1)).flatten ++ (ls.drop (k + 1)).flatten := by rw [← List.flatten_append, List.take_append_drop]
  rw [h2, h1]; simp

set_option maxHeartbeats 2000000 in
theorem tsum_any (D : Nat) (A : Option Addr) (n c : Nat) (vs : List Value) (ls : List (List Int)) (w : World) (hd : Hs w D) (hr : Rd w 1 A n vs) (hA : ∀ ad, A = some ad → 0 < n → ad.block ≠ D)
    (hn : ls.length = n) (hn2 : n ≤ 2) (hb : ∀ k, k < n → Bs w [D] (vs.getD k default) (ls.getD k [])) (hsm : ls.flatten.length + 128 < 1099511627776) :
    Calls Tryd.prog 38 #[hv D, .slice A n c] w fun e w' => ∃ v, e = .returned v ∧ Own w' w.heap.size 5 1 v 32 (vb (sha ls.flatten)) ∧ Chg [D] w w' ∧ Hs w' D := by
  obtain ⟨h0, bv0, nv0, hd⟩ := hd
  have hm1 := m_reset D
  have hm2 := m_write D
  have hm3 := m_sum D
  go_enter Tryd.func38, Tryd.ntmps38
  go_wp2_with (go_at_call 29; refine (shareset_any D h0 bv0 nv0 w hd).mono ?_; rintro e w1 ⟨rfl, hb1, hc1⟩)
  have hD1 : Dg w1 D w.heap.size (.slice none 0 0) [] := ⟨hb1, Own.nil _ _ _ _, by simp [Bytes], by simp, by simp [Value.ownBlock]⟩
  clear hb1 hd
  go_loopw [13] (fun iv wr => ∃ k : Nat, ∃ bv, k ≤ n ∧ iv = .int .i64 k ∧ Dg wr D w.heap.size bv (ls.take k).flatten ∧ Chg [D] w wr) (fun iv _ => n - (intOf iv).toNat)
  case atStart => exact ⟨0, _, by omega, rfl, by simpa using hD1, hc1⟩
  case round =>
    clear hD1 hc1
    obtain ⟨k, bv, hk, rfl, hDg, hch⟩ := hrel
    by_cases hlt : k < n
    · obtain ⟨Ak, ck, hvk, hrk, hbk, hak⟩ := (hb k hlt).chg hch (by simp)
      have hcell : ∃ ad, A = some ad ∧ wr.cell? (ad.add k) = some (vs.getD k default) := by
        obtain ⟨ad, e, _, hc⟩ := (hr.chg hch (fun ad e hn => by simpa using hA ad e hn)).2 (by omega)
        refine ⟨ad, e, hc k _ ?_⟩
        have hl := hr.1
        rw [List.getElem?_eq_getElem (by omega), List.getD_eq_getElem?_getD, List.getElem?_eq_getElem (by omega)]
        rfl
      obtain ⟨ad, rfl, hcell⟩ := hcell
      rw [hvk] at hcell
      have hlt' : (k : Int) < n := by omega
      have hl1 : (ls.take k).flatten.length + (ls.getD k []).length ≤ ls.flatten.length := flat_take_len ls k (by omega)
      have hbs := hch.size
      have hl0 : (ls.getD k []).length < 1099511627776 := by omega
      have hcw := shawrite_any D w.heap.size Ak _ ck _ _ bv wr hDg hbs hrk hbk (by omega) (fun ad e hn => by simpa using hak ad e hn)
      have hft := flat_take ls k (by omega)
      clear hrk hbk hak hvk
      generalize ls.getD k [] = lk at *
      go_wp2_with (go_at_call 59; refine hcw.mono ?_; rintro e w4 ⟨rfl, bv4, hdg4, hc4, hb4⟩)
      go_roundw
      case rel =>
        refine ⟨k + 1, bv4, by omega, by go_num, by rw [hft]; exact hdg4, ?_⟩
        refine (hch.step hc4 fun g hg => ?_)
        rcases List.mem_cons.1 hg with rfl | hg
        · exact .inl (by simp)
        · exact .inr (hDg.own.lt g (by simpa using hg)).1
      case measure => simp [intOf]; omega
    · have hge : ¬ (k : Int) < n := by omega
      have hkn : ls.take k = ls := List.take_of_length_le (by omega)
      rw [hkn] at hDg
      obtain ⟨Ab, cb, hvb, _⟩ := hDg.own.form
      subst hvb
      go_wp2_with (go_at_call 58; refine (shasum_any D w.heap.size ls.flatten Ab _ cb wr hDg hsm).mono ?_; rintro e w4 ⟨v, rfl, hown4, hc4⟩)
      go_ret
      exact ⟨v, rfl, hown4.mono hch.size, hch.trans (hc4.mono (by simp)), hDg.hs.chg hc4 (by simp)⟩

set_option maxHeartbeats 2000000 in
theorem tleaf_any (D : Nat) (v : Value) (l : List Int) (w : World) (hd : Hs w D) (hb : Bs w [D] v l) (hsm : l.length + 128 < 1099511627776) :
    Calls Tryd.prog 32 #[hv D, v] w fun e w' => ∃ r, e = .returned r ∧ Own w' w.heap.size 5 1 r 32 (vb (sha l)) ∧ Chg [D] w w' ∧ Hs w' D := by
  have hDw := hd.lt
  have hone := hb.one
  have hc0 : Chg [] w (w.alloc (.cells #[v] 22)) := (Chg.refl [] w).alloc _
  have hcs := tsum_any D (some ⟨w.heap.size, 0, none⟩) 1 1 [v] [l] (w.alloc (.cells #[v] 22)) (hd.chg hc0 (by simp))
    (Rd.of_blk (Blk.new _ _ _) rfl rfl (Nat.le_refl _)) (by rintro ad h _; injection h with h; subst h; simp; omega) rfl (by omega)
    (fun k hk => by
      have : k = 0 := by omega
      subst this
      exact hb.chg hc0 (by simp)) (by simpa using hsm)
  obtain ⟨A, c, hv, _⟩ := hb
  subst hv
  go_enter Tryd.func32, Tryd.ntmps32
  go_wp2_with (go_at_call 38; refine hcs.mono ?_; rintro e w1 ⟨r, rfl, hown, hc, hh⟩)
  go_ret
  exact ⟨r, rfl, by simpa using hown.mono (by simp), (hc0.mono (by simp)).trans hc, hh⟩

set_option maxHeartbeats 2000000 in
theorem tnode_any (D : Nat) (v1 v2 : Value) (l1 l2 : List Int) (w : World) (hd : Hs w D) (hb1 : Bs w [D] v1 l1) (hb2 : Bs w [D] v2 l2) (hsm : l1.length + l2.length + 128 < 1099511627776) :
    Calls Tryd.prog 33 #[hv D, v1, v2] w fun e w' => ∃ r, e = .returned r ∧ Own w' w.heap.size 5 1 r 32 (vb (sha (l1 ++ l2))) ∧ Chg [D] w w' ∧ Hs w' D := by
  have hDw := hd.lt
  have hc0 : Chg [] w (w.alloc (.cells #[v1, v2] 22)) := (Chg.refl [] w).alloc _
  have hcs := tsum_any D (some ⟨w.heap.size, 0, none⟩) 2 2 [v1, v2] [l1, l2] (w.alloc (.cells #[v1, v2] 22)) (hd.chg hc0 (by simp))
    (Rd.of_blk (Blk.new _ _ _) rfl rfl (Nat.le_refl _)) (by rintro ad h _; injection h with h; subst h; simp; omega) rfl (by omega)
    (fun k hk => by
      have : k = 0 ∨ k = 1 := by omega
      rcases this with rfl | rfl
      · exact hb1.chg hc0 (by simp)
      · exact hb2.chg hc0 (by simp)) (by simpa using hsm)
  obtain ⟨A1, c1, hv1, _⟩ := hb1
  obtain ⟨A2, c2, hv2, _⟩ := hb2
  subst hv1
  subst hv2
  go_enter Tryd.func33, Tryd.ntmps33
  go_wp2_with (go_at_call 38; refine hcs.mono ?_; rintro e w1 ⟨r, rfl, hown, hc, hh⟩)
  go_ret
  exact ⟨r, rfl, by simpa using hown.mono (by simp), (hc0.mono (by simp)).trans hc, hh⟩

/-- the pointer to block g -/
abbrev pt (g : Nat) : Value := .pointer (some ⟨g, 0, none⟩)
set_option maxHeartbeats 4000000 in
theorem tjoin_any (D ga gb : Nat) (xa : Option Addr) (na nb sva svb : Value) (ha hb : Int) (la lb : List Int) (w : World) (hd : Hs w D) (hA : Blk w ga 75 #[na, .int .i64 ha, sva]) (hB : Blk w gb 75 #[nb, .int .i64 hb, svb])
    (hgD : ga ≠ D) (hgD2 : gb ≠ D) (hba : Bs w [D] sva la) (hbb : Bs w [D] svb lb) (hsm : la.length + lb.length + 128 < 1099511627776) (h0 : 0 ≤ ha) (h1 : ha < 1000) (hn : na = .pointer xa) :
    Calls Tryd.prog 36 #[hv D, pt ga, pt gb] w fun e w' => ∃ g r, e = .returned (pt g) ∧ w.heap.size ≤ g ∧ Blk w' g 75 #[na, .int .i64 (ha + 1), r] ∧ Own w' w.heap.size 5 1 r 32 (vb (sha (la ++ lb))) ∧ Chg [D] w w' ∧ Hs w' D := by
  have hcs := tnode_any D sva svb la lb w.drew hd hba hbb hsm
  subst hn
  obtain ⟨Aa, ca, hva, _⟩ := hba
  subst hva
  obtain ⟨Ab, cb, hvb, _⟩ := hbb
  subst hvb
  have c0 : w.cell? ⟨ga, 0, none⟩ = some (.pointer xa) := hA.cell 0
  have c1 : w.cell? ⟨ga, 1, none⟩ = some (.int .i64 ha) := hA.cell 1
  have c2 : w.cell? ⟨ga, 2, none⟩ = some (.slice Aa la.length ca) := hA.cell 2
  have c3 : w.cell? ⟨gb, 2, none⟩ = some (.slice Ab lb.length cb) := hB.cell 2
  have hAl := hA.lt
  have hBl := hB.lt
  go_enter Tryd.func36, Tryd.ntmps36
  go_wp2_with fail
  go_region_held3 (fun w' => w'.cell? ⟨ga, 0, none⟩ = some (.pointer xa) ∧ w'.cell? ⟨ga, 1, none⟩ = some (.int .i64 ha) ∧ w'.cell? ⟨ga, 2, none⟩ = some (.slice Aa la.length ca) ∧ w'.cell? ⟨gb, 2, none⟩ = some (.slice Ab lb.length cb))
    (first
      | go_keep
      | (go_split_ands; refine ⟨?_, ?_, ?_, ?_⟩ <;> (rw [hc.cell (by assumption) (by simp [hgD, hgD2])]; assumption)))
    ((first | (go_at_call 33; refine hcs.mono ?_; rintro e w1 ⟨r, rfl, hown, hc, hh⟩; obtain ⟨Ar, cr, hvr, _⟩ := hown.form; subst hvr)))
  rename (World.cell? _ _ = _ ∧ _) => hHeld
  clear hHeld
  rw [show IntKind.i64.wrap (ha + 1) = ha + 1 from IntWalk.i64_in _ (by omega)]
  go_wp2_with fail
  go_ret
  have hc0 : Chg [D] w w1 := ⟨hc.os, hc.tape, hc.output, hc.size, hc.block⟩
  exact ⟨_, _, rfl, hc0.size, Blk.new _ _ _, hown.alloc _, hc0.alloc _, hh.chg ((Chg.refl [] w1).alloc _) (by simp)⟩
end Go.Proofs.YtcpeldnikloebaaDoor
