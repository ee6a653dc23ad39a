/- ReaderRoot and BuildReaderProof: the root of the segments, and a proof. -/
import Derived.Test.YtcpeldnikloebaaDoorRb
set_option linter.unusedVariables false
set_option linter.unusedSimpArgs false
namespace Go.Proofs.YtcpeldnikloebaaDoor
open Go.RowKit Go.Mm Go.Sha Merk

theorem ne_neq : ∀ w : World, (binOp .neq 35 .nilIface .nilIface).run Tryd.prog w = .ok (.bool false) w := fun _ => by kernel_rfl
theorem stk_ne {k : Stk} {N : Nat} (h : wsum k = N) (hN : 0 < N) : k ≠ [] := by rintro rfl; simp [wsum] at h; omega

/-- what a reader at its start and a digest are, ahead of the reading -/
structure Src (w : World) (R D B n c : Nat) (a b : Addr) (A : Option Addr) (xs : List Int) : Prop where
  r : Blk w R 59 #[.slice A n c, .int .i64 0, .int .i64 (-1)]
  d : Hs w D
  e : Er w B a b
  x : Bs w [D, R] (.slice A n c) xs
  len : xs.length = n
  n0 : 0 < n
  n1 : n ≤ 200
  nc : n ≤ c
  bd : B ≤ D
  br : B ≤ R

theorem segs_pos {m : Nat} (hm : 0 < m) {xs : List Int} (h : 0 < xs.length) : 0 < (segs m xs).length := (segs_lt hm xs 0).2 (by omega)
theorem segs_le {m : Nat} (hm : 0 < m) {xs : List Int} (h : xs.length ≤ 200) : (segs m xs).length ≤ 200 := by
  rcases Nat.lt_or_ge 200 (segs m xs).length with h1 | h1
  · have := (segs_lt hm xs 200).1 h1
    omega
  · exact h1
theorem Src.more {w : World} {R D B n c T : Nat} {a b : Addr} {A : Option Addr} {xs : List Int} (s : Src w R D B n c a b A xs) {w1 : World} (hc : Chg [] w w1) (hT : w.heap.size ≤ T) : Bs w1 [T, D, R] (.slice A n c) xs := by
  refine (s.x.more (T := [T, D, R]) ?_).chg hc (by simp)
  intro y hy
  simp only [List.mem_cons, List.not_mem_nil, or_false] at hy ⊢
  rcases hy with rfl | rfl | rfl
  · exact .inr hT
  · simp
  · simp

set_option maxHeartbeats 4000000 in
theorem treader_any (R D B m n c : Nat) (a b : Addr) (A : Option Addr) (xs : List Int) (w : World) (hs : Src w R D B n c a b A xs) (hm0 : 0 < m) (hm : m ≤ 50) :
    Calls Tryd.prog 12 #[rv R, hv D, .int .i64 m] w fun e w' => ∃ v, e = .returned (.tuple #[v, .nilIface]) ∧ Own w' w.heap.size 5 1 v 32 (vb (mroot sha (segs m xs))) ∧ Chg [D, R] w w' := by
  have hq := ne_neq
  have hEl := hs.e.lt
  have hcall := tnew_any D w.heap.size w hs.d (Nat.le_refl _)
  have hpos := segs_pos hm0 (xs := xs) (by rw [hs.len]; exact hs.n0)
  have hle := segs_le hm0 (xs := xs) (by rw [hs.len]; exact hs.n1)
  have HS : Hid (Src w R D B n c a b A xs) := hs
  clear hs
  go_enter Tryd.func12, Tryd.ntmps12
  go_wp2_with (first
    | (go_at_call 21; refine hcall.mono ?_; rintro e w1 ⟨T, rfl, hT, ht1, hc1⟩;
       have hra := readall_any T D R w.heap.size B m n c 0 a b false A xs w1 ht1 (HS.out.r.chg hc1 (by simp)) (HS.out.e.chg hc1 (by simp)) (HS.out.more hc1 hT) HS.out.len HS.out.n1 HS.out.nc hm0 hm (by omega) ⟨by omega, HS.out.bd, HS.out.br⟩; clear ht1)
    | (go_at_call 28; refine hra.mono ?_; rintro e w2 ⟨rfl, head, k, pv, ps, ht2, hk, hp, hw, hpv, hc2⟩;
       have hro := troot_any T D _ head k w2 (Tc.of ht2) (by omega) (stk_ne hw hpos); rw [rootOf_inv sha hk] at hro; clear ht2)
    | (go_at_call 26; refine hro.mono ?_; rintro e w3 ⟨v, rfl, hov, hbv, hlv, hc3, hh3⟩; clear hro hra))
  go_ret2
  have h1 := hc1.size
  have h2 := hc2.size
  refine ⟨v, rfl, hov.mono (by omega), ((hc1.mono (by simp)).step hc2 ?_).trans (hc3.mono (by simp))⟩
  intro y hy
  simp only [List.mem_cons, List.not_mem_nil, or_false] at hy ⊢
  rcases hy with rfl | rfl | rfl
  · exact .inr hT
  · simp
  · simp

set_option maxHeartbeats 4000000 in
theorem tbuild_any (R D B m n c idx : Nat) (a b : Addr) (A : Option Addr) (xs : List Int) (w : World) (hs : Src w R D B n c a b A xs) (hm0 : 0 < m) (hm : m ≤ 50) (hi : idx < (segs m xs).length) :
    Calls Tryd.prog 15 #[rv R, hv D, .int .i64 m, .int .u64 idx] w fun e w' => ∃ v pv vs, e = .returned (.tuple #[v, pv, .int .u64 (segs m xs).length, .nilIface]) ∧ Own w' w.heap.size 5 1 v 32 (vb (mroot sha (segs m xs))) ∧
      Own w' w.heap.size 22 1 pv ((segs m xs).getD idx [] :: mpath sha (segs m xs) idx).length vs ∧ Bss w' [] vs ((segs m xs).getD idx [] :: mpath sha (segs m xs) idx) ∧ Chg [D, R] w w' := by
  have hq := ne_neq
  have hEl := hs.e.lt
  have hcall := tnew_any D w.heap.size w hs.d (Nat.le_refl _)
  have hpos := segs_pos hm0 (xs := xs) (by rw [hs.len]; exact hs.n0)
  have hle := segs_le hm0 (xs := xs) (by rw [hs.len]; exact hs.n1)
  have HS : Hid (Src w R D B n c a b A xs) := hs
  clear hs
  go_enter Tryd.func15, Tryd.ntmps15
  go_wp2_with (first
    | (go_at_call 21; refine hcall.mono ?_; rintro e w1 ⟨T, rfl, hT, ht1, hc1⟩; have hst := tset_any T D w.heap.size idx w1 ht1; clear ht1)
    | (go_at_call 22; refine hst.mono ?_; rintro e w2 ⟨rfl, ht2, hc2⟩;
       have hc12 : Chg [T] w w2 := (hc1.mono (by simp)).trans hc2; have hc02 : Chg [] w w2 := hc12.new hT;
       have hra := readall_any T D R w.heap.size B m n c idx a b true A xs w2 ht2 (HS.out.r.chg hc02 (by simp)) (HS.out.e.chg hc02 (by simp)) (HS.out.more hc02 hT) HS.out.len HS.out.n1 HS.out.nc hm0 hm (by omega) ⟨by omega, HS.out.bd, HS.out.br⟩; clear ht2)
    | (go_at_call 28; refine hra.mono ?_; rintro e w3 ⟨rfl, head, k, pv, ps, ht3, hk, hp, hw, hpv, hc3⟩;
       have hpl : 0 < ps.length := (by rcases ps with _ | ⟨p, r⟩; exact (PSet_nil_false sha k _ hk hi hp).elim; simp);
       have hpr := tprove_any T D w.heap.size idx _ head pv k ps w3 ht3 (by omega) (stk_ne hw hpos) hpl (by have := set_len hk hp (by omega); omega); rw [rootOf_inv sha hk, prove_set sha hk hi hp] at hpr; clear ht3)
    | (go_at_call 24; refine hpr.mono ?_; rintro e w4 ⟨rv4, pv4, vs4, rfl, ho4, hp4, hb4, hc4, hh4⟩; clear hpr hra;
       obtain ⟨Ap, cp, rfl, _⟩ := hp4.form; have hlz : ¬ ((((segs m xs).getD idx [] :: mpath sha (segs m xs) idx).length : Nat) : Int) = 0 := (by simp; omega); have HP4 : Hid _ := hp4; clear hp4))
  (try simp only [Exit.inBlock, Exit.then]); refine bodyPost_ret (results_tmp4 rfl _ _ _) rfl ?_
  have h1 := hc02.size
  have h2 := hc3.size
  refine ⟨_, _, vs4, rfl, ho4.mono (by omega), HP4.out, hb4, ((hc02.mono (T := [D, R]) (by simp)).step hc3 ?_).step hc4 ?_⟩
  · intro y hy
    simp only [List.mem_cons, List.not_mem_nil, or_false] at hy ⊢
    rcases hy with rfl | rfl | rfl
    · exact .inr hT
    · simp
    · simp
  · intro y hy
    simp only [List.mem_cons, List.not_mem_nil, or_false, Option.mem_toList] at hy ⊢
    rcases hy with rfl | h
    · simp
    · exact .inr (by have := hpv _ h; omega)
end Go.Proofs.YtcpeldnikloebaaDoor
