/- The walk of the reference's SHA256. -/
import Derived.Test.YtcpeldnikloebaaDoorShaS
set_option linter.unusedVariables false
set_option linter.unusedSimpArgs false
namespace Go.Proofs.YtcpeldnikloebaaDoor
open Go.RowKit Go.Mm Go.Sha

set_option maxHeartbeats 400000 in
theorem turn_any (x s : Int) (w : World) (_hx : 0 ≤ x) (_hx2 : x < 4294967296) (hs : 0 ≤ s) (hs2 : s ≤ 32) :
    Calls Tryd.prog 31 #[.int .u32 x, .int .u64 s] w fun e w' => e = .returned (.int .u32 (turn x s)) ∧ w' = w := by
  go_enter Tryd.func31, Tryd.ntmps31
  go_wp2
  go_ret
  exact ⟨rfl, rfl⟩

/-- the reference's own memory: the constants, the sum so far, the padded message -/
structure RInv (w wr : World) (Kb Hb B0 : Nat) (hh : H8) (pv : Value) (L : Nat) (M : List Int) : Prop where
  chg : Chg [] w wr
  ks : Blk wr Kb 65 K64
  hs : Blk wr Hb 61 (vcells hh)
  own : Own wr B0 5 1 pv L (vb M)
  top : B0 ≤ wr.heap.size
theorem RInv.far {w wr w' : World} {Kb Hb B0 X : Nat} {hh : H8} {pv : Value} {L : Nat} {M : List Int} (hI : RInv w wr Kb Hb B0 hh pv L M) (hc : Chg [X] wr w') (h1 : Kb < X) (h2 : Hb < X) (h3 : ∀ g, pv.ownBlock = some g → g < X) (h4 : w.heap.size ≤ X) : RInv w w' Kb Hb B0 hh pv L M where
  chg := hI.chg.step hc (fun k hk => .inr (by simp at hk; omega))
  ks := hI.ks.chg hc (by simp; omega)
  hs := hI.hs.chg hc (by simp; omega)
  own := hI.own.chg hc (fun g hg => by have := h3 g hg; simp; omega)
  top := Nat.le_trans hI.top hc.size
theorem RInv.drewN {w wr : World} {Kb Hb B0 : Nat} {hh : H8} {pv : Value} {L : Nat} {M : List Int} (hI : RInv w wr Kb Hb B0 hh pv L M) (n : Nat) : RInv w (wr.drewN n) Kb Hb B0 hh pv L M :=
  ⟨hI.chg.drewN n, hI.ks, hI.hs, hI.own, hI.top⟩
theorem RInv.drew {w wr : World} {Kb Hb B0 : Nat} {hh : H8} {pv : Value} {L : Nat} {M : List Int} (hI : RInv w wr Kb Hb B0 hh pv L M) : RInv w wr.drew Kb Hb B0 hh pv L M :=
  ⟨hI.chg.drew, hI.ks, hI.hs, hI.own, hI.top⟩
theorem RInv.new {w wr w' : World} {Kb Hb B0 : Nat} {hh : H8} {pv : Value} {L : Nat} {M : List Int} (hI : RInv w wr Kb Hb B0 hh pv L M) (hc : Chg [] wr w') : RInv w w' Kb Hb B0 hh pv L M :=
  ⟨hI.chg.trans hc, hI.ks.chg hc (by simp), hI.hs.chg hc (by simp), hI.own.chg hc (fun _ _ => by simp), Nat.le_trans hI.top hc.size⟩
theorem RInv.put {w wr w' : World} {Kb Hb B0 : Nat} {hh h2 : H8} {pv : Value} {L : Nat} {M : List Int} (hI : RInv w wr Kb Hb B0 hh pv L M) (hKH : Kb < Hb) (hHB : Hb < B0) (hwK : w.heap.size ≤ Kb) (hb : Blk w' Hb 61 (vcells h2)) (hc : Chg [Hb] wr w') : RInv w w' Kb Hb B0 h2 pv L M where
  chg := hI.chg.step hc (fun k hk => .inr (by simp at hk; omega))
  ks := hI.ks.chg hc (by simp; omega)
  hs := hb
  own := hI.own.chg hc (fun g hg => by have := (hI.own.lt g hg).1; simp; omega)
  top := Nat.le_trans hI.top hc.size
theorem RInv.push {w wr w2 : World} {Kb Hb B0 : Nat} {hh : H8} {pv v2 : Value} {L : Nat} {M : List Int} {x : Int} {ob : Obj} (hI : RInv w wr Kb Hb B0 hh pv L M) (hKH : Kb < Hb) (hHB : Hb < B0) (hwK : w.heap.size ≤ Kb)
    (hown : Own w2 B0 5 1 v2 (L + 1) (vb M ++ [.int .u8 x])) (hg : (wr.alloc ob).grownBy w2 pv.ownBlock) : RInv w w2 Kb Hb B0 hh v2 (L + 1) (M ++ [x]) := by
  have hc : Chg pv.ownBlock.toList wr w2 := ((Chg.refl _ wr).alloc ob).trans (Chg.of_grown hg (fun k hk => by simp [hk]))
  have hlt := hI.own.lt
  exact {
    chg := hI.chg.step hc (fun k hk => .inr (by have := (hlt k (by simpa using hk)).1; omega))
    ks := hI.ks.chg hc (fun h => by have := (hlt Kb (by simpa using h)).1; omega)
    hs := hI.hs.chg hc (fun h => by have := (hlt Hb (by simpa using h)).1; omega)
    own := by
      have e : vb (M ++ [x]) = vb M ++ [.int .u8 x] := by rw [vb_append]; rfl
      rw [e]; exact hown
    top := Nat.le_trans hI.top hc.size }

/-- the reference's schedule, in the making: k words whole, the next one x, noughts behind -/
def WS (wr : World) (Wb : Nat) (p : Nat → Int) (k : Nat) (x : Int) : Prop :=
  ∃ cs, Blk wr Wb 65 cs ∧ cs.size = 64 ∧ (∀ j, j < k → cs[j]? = some (.int .u32 (wf p j))) ∧ (k < 64 → cs[k]? = some (.int .u32 x)) ∧ (∀ j, k < j → j < 64 → cs[j]? = some (.int .u32 0))
theorem WS.next {wr : World} {Wb : Nat} {p : Nat → Int} {k : Nat} {x : Int} (h : WS wr Wb p k x) (hk : k < 64) (hx : x = wf p k) : WS wr Wb p (k + 1) 0 := by
  obtain ⟨cs, hb, hs, h1, h2, h3⟩ := h
  refine ⟨cs, hb, hs, fun j hj => ?_, fun h => h3 _ (by omega) h, fun j hj => h3 j (by omega)⟩
  by_cases e : j = k
  · subst e; rw [h2 hk, hx]
  · exact h1 j (by omega)
theorem WS.put {wr w' : World} {Wb : Nat} {p : Nat → Int} {k : Nat} {cs : Array Value} {y : Int} (hk : k < 64) (hs : cs.size = 64) (h1 : ∀ j, j < k → cs[j]? = some (.int .u32 (wf p j))) (h3 : ∀ j, k < j → j < 64 → cs[j]? = some (.int .u32 0))
    (hb : Blk w' Wb 65 (cs.setIfInBounds k (.int .u32 y))) (_hw : wr = wr) : WS w' Wb p k y := by
  refine ⟨_, hb, by simpa using hs, fun j hj => ?_, fun _ => by simp [hs, hk], fun j hj hj2 => ?_⟩
  · rw [Array.getElem?_setIfInBounds, if_neg (by omega)]; exact h1 j hj
  · rw [Array.getElem?_setIfInBounds, if_neg (by omega)]; exact h3 j hj hj2
theorem WS.chg {wr w' : World} {Wb : Nat} {p : Nat → Int} {k : Nat} {x : Int} {S : List Nat} (h : WS wr Wb p k x) (hc : Chg S wr w') (hn : Wb ∉ S) : WS w' Wb p k x := by
  obtain ⟨cs, hb, r⟩ := h
  exact ⟨cs, hb.chg hc hn, r⟩
theorem WS.at_ {wr : World} {Wb : Nat} {p : Nat → Int} {k j : Nat} {x : Int} (h : WS wr Wb p k x) (hj : j < k) : wr.cell? ⟨Wb, j, none⟩ = some (.int .u32 (wf p j)) := by
  obtain ⟨cs, hb, hs, h1, _⟩ := h
  exact (hb.cell j).trans (h1 j hj)

set_option maxRecDepth 100000 in
set_option maxHeartbeats 40000000 in
theorem specsha_any (A : Option Addr) (n c : Nat) (m : List Int) (w : World) (hr : Rd w 1 A n (vb m)) (hm : Bytes m) (hsm : m.length + 128 < 1099511627776) :
    Calls Tryd.prog 17 #[.slice A n c] w fun e w' => ∃ v, e = .returned v ∧ Own w' w.heap.size 5 1 v 32 (vb (sha m)) ∧ Chg [] w w' := by
  obtain ⟨i0, hi0, hz0, hz1, hz2⟩ := info_parts info_u8
  have hn : n = m.length := by have := hr.1; rw [vb_len] at this; omega
  subst hn
  have hml : m.length < 1099511627776 := by omega
  have tok1 : True := trivial
  go_enter Tryd.func17, Tryd.ntmps17
  go_wp2_with (first
    | (refine at_build 65 (.agg K64) (by kernel_rfl) ?_)
    | (have _t := tok1; refine at_alloc 65 Z64 (by kernel_rfl) ?_; intro w1 hb1 hc1 hs1; clear tok1)
    | (refine at_store_seg 65 _ _ w.heap.size 0 (by rfl) K64 (by rfl) 65 Z64 hb1 (by kernel_rfl) (by decide +kernel) (by decide +kernel) ?_
       intro w2 hb2 hc2
       rw [splice_all (by decide +kernel), Array.toArray_toList] at hb2
       have hc3 : Chg [] w w2 := hc1.step hc2 (fun k hk => .inr (by simp at hk; omega))
       have hs2 := hc2.size
       clear hb1 hc1 hc2)
    | (refine at_alloc 61 (vcells fun _ => 0) (by kernel_rfl) ?_; intro w3 hb3 hc4 hs3; have hK3 := hb2.chg hc4 (by simp); have hc5 := hc3.trans hc4; clear hb2 hc3 hc4)
    | (refine at_store_seg 61 _ _ w2.heap.size 0 (by rfl) (vcells IV) (by rfl) 61 _ hb3 (by kernel_rfl) (by simp [vcells, Value.oneCell']) (by simp [vcells]) ?_
       intro w4 hb4 hc4
       rw [show splice (vcells fun _ => 0) 0 (vcells IV).toList = vcells IV from rfl] at hb4
       have hK4 := hK3.chg hc4 (by simp; omega)
       have hc6 : Chg [] w w4 := hc5.step hc4 (fun k hk => .inr (by simp at hk; omega))
       have hs4 := hc4.size
       have hr4 := hr.chg hc6 (fun _ _ _ => by simp)
       clear hb3 hc4 hK3 hc5)
    | (at_builtin
       have _t := hr4
       refine wpList_append_mm _ rfl _ _ 22 rfl w4.heap.size 5 i0 _ 1 1 Tryd.underlying22 hi0 hz0 hz1 hz2 rfl (by omega) (.slice (some ⟨w4.heap.size, 0, none⟩) 0 0) 0 [] rfl (Own.lit w4 #[] 0 (Nat.le_refl _) (by simp [maxLen]) rfl) A m.length c (vb m) rfl (hr4.alloc _) (vb_one m) (by simp only [maxLen]; omega) (by omega) (by simp) ?_
       intro v1 w5 hown1 hg1 hat1
       have hs5 := hg1.size
       clear hr4)
    | (at_builtin
       refine wpList_append_mm _ rfl _ _ 22 rfl w4.heap.size 5 i0 _ 1 1 Tryd.underlying22 hi0 hz0 hz1 hz2 rfl (by omega) v1 _ _ rfl (hown1.alloc _) (some ⟨w5.heap.size, 0, none⟩) 1 1 [.int .u8 128] rfl (Rd.of_blk (Blk.new _ _ _) rfl rfl (Nat.le_refl _)) (by simp [Value.oneCell']) (by simp only [maxLen]; omega) (by omega) (by simp at hs5 ⊢; omega) ?_
       intro v2 w6 hown2 hg2 hat2))
  have hw6 : w4.heap.size ≤ w6.heap.size := by have := hg2.size; simp at hs5 this; omega
  have hI0 : RInv w w6 w.heap.size w2.heap.size w4.heap.size IV v2 (m.length + 1) (m ++ [128]) := by
    have hc45 : Chg [] w4 w5 := ((Chg.refl [] w4).alloc (.cells #[] 5)).step (Chg.of_grown (S := [w4.heap.size]) hg1 (fun k hk => by simp [Value.ownBlock] at hk; simp [hk])) (fun k hk => .inr (by simp at hk; omega))
    have hlt1 := hown1.lt
    have hc56 : Chg v1.ownBlock.toList w5 w6 := ((Chg.refl _ w5).alloc _).trans (Chg.of_grown hg2 (fun k hk => by simp [hk]))
    have hc46 : Chg [] w4 w6 := hc45.step hc56 (fun k hk => .inr (hlt1 k (by simpa using hk)).1)
    have e : vb (m ++ [128]) = [] ++ vb m ++ [.int .u8 128] := by rw [vb_append]; rfl
    exact ⟨hc6.trans hc46, hK4.chg hc46 (by simp), hb4.chg hc46 (by simp), by rw [e]; simpa using hown2, hw6⟩
  obtain ⟨A2, c2, hv2, _, _⟩ := hown2.form
  rw [show 0 + m.length + 1 = m.length + 1 by omega] at hv2
  have hKH : w.heap.size < w2.heap.size := by omega
  have hHB : w2.heap.size < w4.heap.size := by omega
  rw [hv2] at hI0 ⊢
  clear hv2 hown2 hg2 hat2 hown1 hg1 hat1 hs5 hb4 hK4 hc6 hs4 hs3 hs2 hs1 _t
  generalize w2.heap.size = Hb at *
  generalize hB0 : w4.heap.size = B0 at *
  clear hB0
  go_loopw [5] (fun pv wr => ∃ z : Nat, ∃ Ap cp, z ≤ zeros m.length ∧ pv = .slice Ap (m.length + 1 + z) cp ∧ RInv w wr w.heap.size Hb B0 IV pv (m.length + 1 + z) ((m ++ [128]) ++ List.replicate z 0)) (fun pv _ => match pv with | .slice _ n _ => m.length + 65 - n | _ => 0)
  case atStart => exact ⟨0, _, _, by omega, rfl, by simpa using hI0⟩
  case round =>
    clear hI0
    obtain ⟨z, Ap, cp, hz, rfl, hI⟩ := hrel
    have hzz : Hid (z ≤ (119 - m.length % 64) % 64) := hz
    have hz64 : z < 64 := by have := hzz.out; omega
    by_cases hlt : z < zeros m.length
    · have hne : Hid ((m.length + 1 + z) % 64 ≠ 56) := by
        unfold zeros at hlt
        show (m.length + 1 + z) % 64 ≠ 56
        omega
      have hne2 : (((m.length : Int) + 1 + (z : Int)) % 64 != 56) = true := by
        have := hne.out
        simp; omega
      go_wp2_with (at_builtin; refine wpList_append_mm _ rfl _ _ 22 rfl B0 5 i0 _ 1 1 Tryd.underlying22 hi0 hz0 hz1 hz2 rfl (by omega) (.slice Ap (m.length + 1 + z) cp) (m.length + 1 + z) _ rfl (hI.own.alloc _) (some ⟨wr.heap.size, 0, none⟩) 1 1 [.int .u8 0] rfl (Rd.of_blk (Blk.new _ _ _) rfl rfl (Nat.le_refl _)) (by simp [Value.oneCell']) (by simp only [maxLen]; omega) (by omega) (by have := hI.top; simp; omega) ?_; intro v2 w3 hown2 hg2 hat2)
      obtain ⟨A2, c2, hv2, _, _⟩ := hown2.form
      have hN := hI.push (x := 0) (v2 := v2) hKH hHB (Nat.le_refl _) hown2 hg2
      rw [List.append_assoc, show List.replicate z (0 : Int) ++ [0] = List.replicate (z + 1) 0 by rw [List.replicate_succ']] at hN
      rw [hv2] at hN ⊢
      go_roundw
      case rel => exact ⟨z + 1, A2, c2, by omega, rfl, hN⟩
      case measure => simp; omega
    · have hne : (m.length + 1 + z) % 64 = 56 := by
        unfold zeros at hlt hz
        omega
      have hne2 : (((m.length : Int) + 1 + (z : Int)) % 64 != 56) = false := by
        simp; omega
      have HZ : Hid (zeros m.length = z) := by show zeros m.length = z; omega
      clear hne
      go_wp2_with fail
      go_loopw [5, 6] (fun pv iv wr => ∃ k : Nat, ∃ i : Int, ∃ Ap cp, k ≤ 8 ∧ i = 7 - (k : Int) ∧ iv = .int .i64 i ∧ pv = .slice Ap (m.length + 1 + z + k) cp ∧ RInv w wr w.heap.size Hb B0 IV pv (m.length + 1 + z + k) ((m ++ [128]) ++ List.replicate z 0 ++ (len8 m.length).take k)) (fun _ iv _ => (intOf iv + 1).toNat)
      case atStart => exact ⟨0, 7, Ap, cp, by omega, rfl, rfl, rfl, by simpa using hI⟩
      case round =>
        clear hI hne2
        obtain ⟨k, i, Ap, cp, hk, hi, rfl, rfl, hI⟩ := hrel
        have HI : Hid (i = 7 - (k : Int)) := hi
        by_cases hlt : k < 8
        · have i0' : 0 ≤ i := by omega
          have i7 : i ≤ 7 := by omega
          clear hi
          go_wp2_with (at_builtin; refine wpList_append_mm _ rfl _ _ 22 rfl B0 5 i0 _ 1 1 Tryd.underlying22 hi0 hz0 hz1 hz2 rfl (by omega) (.slice Ap (m.length + 1 + z + k) cp) (m.length + 1 + z + k) _ rfl (hI.own.alloc _) (some ⟨wr.heap.size, 0, none⟩) 1 1 [_] rfl (Rd.of_blk (Blk.new _ _ _) rfl rfl (Nat.le_refl _)) (by simp [Value.oneCell']) (by simp only [maxLen]; omega) (by omega) (by have := hI.top; simp; omega) ?_; intro v2 w3 hown2 hg2 hat2)
          obtain ⟨A2, c2, hv2, _, _⟩ := hown2.form
          rw [Int.mul_comm 8 (m.length : Int), len8_at HI.out hlt] at hown2
          have hN := hI.push (x := (len8 m.length).getD k 0) (v2 := v2) hKH hHB (Nat.le_refl _) hown2 hg2
          rw [List.append_assoc, ← len8_take hlt] at hN
          rw [hv2] at hN ⊢
          go_roundw
          case rel => exact ⟨k + 1, i - 1, A2, c2, by omega, by have := HI.out; omega, rfl, rfl, hN⟩
          case measure => simp [intOf]; omega
        · have hi8 : ¬ 0 ≤ i := by omega
          have hk8 : k = 8 := by omega
          have hpl : m.length + 1 + z + k = (m ++ padding m.length).length := by
            rw [List.length_append, padding_len, HZ.out, hk8]; omega
          have hpv : (m ++ [128]) ++ List.replicate z (0 : Int) ++ (len8 m.length).take k = m ++ padding m.length := by
            rw [hk8, ← HZ.out]
            simp [padding, len8]
          rw [hpv] at hI
          have hfit : (m ++ padding m.length).length % 64 = 0 := by rw [List.length_append, padding_len]; have := zeros_fit m.length; omega
          have hMl : (m ++ padding m.length).length < 1099511627776 := by rw [← hpl]; omega
          have hMb : Bytes (m ++ padding m.length) := fun x hx => (List.mem_append.1 hx).elim (hm x) (padding_bytes _ x)
          rw [hpl] at hI ⊢
          have HS : Hid (out (absorb IV (m ++ padding m.length) ((m ++ padding m.length).length / 64)) = sha m) := rfl
          clear hpl hpv hk8 hi HI HZ hz64 hzz hlt hz
          generalize m ++ padding m.length = M at *
          go_wp2_with fail
          go_loopw [8] (fun av wr => ∃ b : Nat, 64 * b ≤ M.length ∧ av = .int .i64 (64 * (b : Int)) ∧ RInv w wr w.heap.size Hb B0 (absorb IV M b) (.slice Ap M.length cp) M.length M) (fun av _ => M.length - (intOf av).toNat)
          case atStart => exact ⟨0, by omega, by go_num, hI⟩
          case round =>
            clear hI
            obtain ⟨b, hb, rfl, hI⟩ := hrel
            by_cases hlt : 64 * b < M.length
            · have hlt2 : 64 * b + 64 ≤ M.length := by omega
              have hok := absorb_ok IV_ok b M
              have HA : Hid (absorb IV M (b + 1) = comp (absorb IV M b) (fun j => (M.drop (64 * b)).getD j 0)) := absorb_snoc b IV M
              generalize absorb IV M b = hh at hI hok HA
              have hp : ∀ j, j < 64 → 0 ≤ (M.drop (64 * b)).getD j 0 ∧ (M.drop (64 * b)).getD j 0 ≤ 255 := fun j _ => getD_bd (drop_bytes hMb _) j
              go_wp2_with (refine at_alloc 65 Z64 (by kernel_rfl) ?_; intro w7 hb7 hc7 hs7)
              rcases hI.own.2 with ⟨_, h0⟩ | ⟨g, o, cap, cur, hv, hbg, hblk, hrc, hmx, hfit2, htk⟩
              · omega
              injection hv with hv1 _ hv2
              subst hv1
              subst hv2
              have hX : g < wr.heap.size := hblk.lt
              have hKX : w.heap.size < wr.heap.size := Nat.lt_of_lt_of_le hKH (Nat.le_of_lt hI.hs.lt)
              have hHX : Hb < wr.heap.size := hI.hs.lt
              have hI7 := hI.new hc7
              have hW7 : WS w7 wr.heap.size (fun j => (M.drop (64 * b)).getD j 0) 0 0 := ⟨_, hb7, Z64_size, fun j hj => by omega, fun h => Z64_at h, fun j _ hj => Z64_at hj⟩
              clear hb7 hc7 hs7 hI hblk hfit2 htk hmx hrc hbg
              generalize wr.heap.size = Wb at *
              have hsrc : ∀ (wx : World), RInv w wx w.heap.size Hb B0 hh (.slice (some ⟨g, o, none⟩) M.length cp) M.length M → ∀ j, j < 64 → wx.cell? ⟨g, o + (64 * b + j), none⟩ = some (.int .u8 ((M.drop (64 * b)).getD j 0)) := fun wx hx j hj => by
                have := hx.own.rd.cellAt (vb_at M (j := 64 * b + j) (by omega)) (by omega)
                rw [this, List.getD_eq_getElem?_getD, List.getD_eq_getElem?_getD, List.getElem?_drop]
              have HSRC : Hid _ := hsrc
              have HP : Hid _ := hp
              clear hsrc hp
              have hFar : ∀ (wx wy : World), RInv w wx w.heap.size Hb B0 hh (.slice (some ⟨g, o, none⟩) M.length cp) M.length M → Chg [Wb] wx wy → RInv w wy w.heap.size Hb B0 hh (.slice (some ⟨g, o, none⟩) M.length cp) M.length M := fun wx wy hx hc =>
                hx.far hc hKX hHX (fun g' hg' => by simp [Value.ownBlock] at hg'; omega) (Nat.le_of_lt hKX)
              have HFAR : Hid _ := hFar
              clear hFar
              go_loopw [60] (fun iv wr => ∃ k : Nat, k ≤ 16 ∧ iv = .int .i64 k ∧ RInv w wr w.heap.size Hb B0 hh (.slice (some ⟨g, o, none⟩) M.length cp) M.length M ∧ WS wr Wb (fun j => (M.drop (64 * b)).getD j 0) k 0) (fun iv _ => 16 - (intOf iv).toNat)
              case atStart => exact ⟨0, by omega, rfl, hI7, hW7⟩
              case round =>
                clear hI7 hW7
                obtain ⟨k, hk, rfl, hI, hW⟩ := hrel
                by_cases hlt4 : k < 16
                · go_wp2_with fail
                  go_loopw [63] (fun iv wr => ∃ n : Nat, n ≤ 4 ∧ iv = .int .i64 n ∧ RInv w wr w.heap.size Hb B0 hh (.slice (some ⟨g, o, none⟩) M.length cp) M.length M ∧ WS wr Wb (fun j => (M.drop (64 * b)).getD j 0) k (rdw (fun j => (M.drop (64 * b)).getD j 0) k n)) (fun iv _ => 4 - (intOf iv).toNat)
                  case atStart => exact ⟨0, by omega, rfl, hI, hW⟩
                  case round =>
                    clear hI hW
                    obtain ⟨n, hn, rfl, hI, hW⟩ := hrel
                    by_cases hlt5 : n < 4
                    · have cm := HSRC.out _ hI (4 * k + n) (by omega)
                      obtain ⟨pl, ph⟩ := HP.out (4 * k + n) (by omega)
                      obtain ⟨cs, hbW, hsW, w1', w2', w3'⟩ := hW
                      have cw := (hbW.cell k).trans (w2' (by omega))
                      have hrb := rdw_bd (fun j => (M.drop (64 * b)).getD j 0) k n
                      generalize hx : rdw (fun j => (M.drop (64 * b)).getD j 0) k n = x at cw hrb
                      generalize hy : (M.drop (64 * b)).getD (4 * k + n) 0 = y at cm pl ph
                      have HX : Hid (rdw (fun j => (M.drop (64 * b)).getD j 0) k (n + 1) = bits .or .u32 (x * 256 % 4294967296) y) := by
                        show rdw (fun j => (M.drop (64 * b)).getD j 0) k (n + 1) = _
                        rw [← hx, ← hy]; rfl
                      clear hx hy
                      have s1 : IntKind.i64.wrap (4 * (k : Int)) = 4 * (k : Int) := IntWalk.i64_in _ (by omega)
                      have s2 : IntKind.i64.wrap (64 * (b : Int) + 4 * (k : Int)) = 64 * (b : Int) + 4 * (k : Int) := IntWalk.i64_in _ (by omega)
                      have s3 : IntKind.i64.wrap (64 * (b : Int) + 4 * (k : Int) + (n : Int)) = 64 * (b : Int) + 4 * (k : Int) + (n : Int) := IntWalk.i64_in _ (by omega)
                      have g3 : 0 ≤ 64 * (b : Int) + 4 * (k : Int) + (n : Int) ∧ 64 * (b : Int) + 4 * (k : Int) + (n : Int) < (M.length : Int) := by omega
                      have n3 : (64 * (b : Int) + 4 * (k : Int) + (n : Int)).toNat = 64 * b + (4 * k + n) := by omega
                      have gk : (k : Int) < 64 := by omega
                      have e0 : IntKind.u32.wrap y = y := IntWalk.u32_in _ (by omega)
                      go_wp2_with fail
                      refine still_tail 17 (by kernel_rfl) (by kernel_rfl) ?_
                      simp only [List.take_succ_cons, List.take_zero, List.drop_succ_cons, List.drop_zero]
                      repeat still_step
                      refine wpStill_nil ?_
                      refine at_store_cell 60 _ _ Wb k (by rfl) (.int .u32 (rdw (fun j => (M.drop (64 * b)).getD j 0) k (n + 1))) ?_ rfl 65 cs hbW.drew (by kernel_rfl) (by omega) ?_
                      · refine Eq.trans (b := Value.int .u32 (bits .or .u32 (IntKind.u32.wrap (x * 256)) y)) rfl ?_
                        rw [IntKind.wrap_u32, HX.out]
                      intro w8 hb8 hc8
                      have hW8 := WS.put (wr := wr) (by omega) hsW w1' w3' hb8 rfl
                      have hI8 := HFAR.out _ _ hI.drew hc8
                      clear hb8 hc8 hbW w1' w2' w3' hI cm cw s1 s2 s3 n3 e0 HX
                      go_wp2_with fail
                      go_roundw
                      case rel => exact ⟨n + 1, by omega, by go_num, hI8, hW8⟩
                      case measure => simp [intOf]; omega
                    · have hn4 : ¬ (n : Int) < 4 := by omega
                      have hW8 : WS wr Wb (fun j => (M.drop (64 * b)).getD j 0) (k + 1) 0 := by
                        have : n = 4 := by omega
                        subst this
                        exact hW.next (by omega) (by rw [rdw_four HP.out hlt4, wf_small _ hlt4])
                      clear hW
                      go_wp2_with fail
                      go_roundw
                      case rel => exact ⟨k + 1, by omega, by go_num, hI, hW8⟩
                      case measure => simp [intOf]; omega
                · have hk16 : ¬ (k : Int) < 16 := by omega
                  have hW16 : WS wr Wb (fun j => (M.drop (64 * b)).getD j 0) 16 0 := by
                    have : k = 16 := by omega
                    rw [← this]; exact hW
                  clear hW
                  generalize (fun j => (M.drop (64 * b)).getD j 0) = p at *
                  go_wp2_with fail
                  go_loopw [12] (fun iv wr => ∃ k : Nat, 16 ≤ k ∧ k ≤ 64 ∧ iv = .int .i64 k ∧ RInv w wr w.heap.size Hb B0 hh (.slice (some ⟨g, o, none⟩) M.length cp) M.length M ∧ WS wr Wb p k 0) (fun iv _ => 64 - (intOf iv).toNat)
                  case atStart => exact ⟨16, by omega, by omega, rfl, hI, hW16⟩
                  case round =>
                    clear hI hW16
                    obtain ⟨k, hk16', hk, rfl, hI, hW⟩ := hrel
                    by_cases hlt6 : k < 64
                    · have c15 := hW.at_ (j := k - 15) (by omega)
                      have c2' := hW.at_ (j := k - 2) (by omega)
                      have c16 := hW.at_ (j := k - 16) (by omega)
                      have c7 := hW.at_ (j := k - 7) (by omega)
                      obtain ⟨cs, hbW, hsW, w1', w2', w3'⟩ := hW
                      obtain ⟨l15, m15⟩ := wf_bd p (k - 15)
                      obtain ⟨l2, m2⟩ := wf_bd p (k - 2)
                      have s15 : IntKind.i64.wrap ((k : Int) - 15) = (k : Int) - 15 := IntWalk.i64_in _ (by omega)
                      have s2 : IntKind.i64.wrap ((k : Int) - 2) = (k : Int) - 2 := IntWalk.i64_in _ (by omega)
                      have s16 : IntKind.i64.wrap ((k : Int) - 16) = (k : Int) - 16 := IntWalk.i64_in _ (by omega)
                      have s7 : IntKind.i64.wrap ((k : Int) - 7) = (k : Int) - 7 := IntWalk.i64_in _ (by omega)
                      have g15 : 0 ≤ (k : Int) - 15 ∧ (k : Int) - 15 < 64 := by omega
                      have g2 : 0 ≤ (k : Int) - 2 ∧ (k : Int) - 2 < 64 := by omega
                      have g16 : 0 ≤ (k : Int) - 16 ∧ (k : Int) - 16 < 64 := by omega
                      have g7 : 0 ≤ (k : Int) - 7 ∧ (k : Int) - 7 < 64 := by omega
                      have gk : (k : Int) < 64 := by omega
                      have q16 : (16 : Int) ≤ k := by omega
                      have q7 : (7 : Int) ≤ k := by omega
                      have r80 : (k : Int) < 80 := by omega
                      have r71 : (k : Int) < 71 := by omega
                      have n15 : ((k : Int) - 15).toNat = k - 15 := by omega
                      have n2 : ((k : Int) - 2).toNat = k - 2 := by omega
                      have n16 : ((k : Int) - 16).toNat = k - 16 := by omega
                      have n7 : ((k : Int) - 7).toNat = k - 7 := by omega
                      have HN : Hid (wf p k = nextw (wf p) k) := wf_next p hk16'
                      go_wp2_with fail
                      go_quiet (fail)
                      go_wp2_with fail
                      refine still_tail 33 (by kernel_rfl) (by kernel_rfl) ?_
                      simp only [List.take_succ_cons, List.take_zero, List.drop_succ_cons, List.drop_zero]
                      repeat (first | still_step | still_call (turn_any _ _ _ (by assumption) (by assumption) (by omega) (by omega)))
                      refine wpStill_nil ?_
                      refine at_store_cell 60 _ _ Wb k (by rfl) (.int .u32 (wf p k)) ?_ rfl 65 cs (hbW.drewN _).drew (by kernel_rfl) (by omega) ?_
                      · refine Eq.trans (b := Value.int .u32 (IntKind.u32.wrap (IntKind.u32.wrap (IntKind.u32.wrap (wf p (k - 16) + _) + wf p (k - 7)) + _))) rfl ?_
                        rw [nextw_wrap, HN.out]
                        rfl
                      intro w8 hb8 hc8
                      have hW8 := (WS.put (wr := wr) (by omega) hsW w1' w3' hb8 rfl).next hlt6 rfl
                      have hI8 := HFAR.out _ _ (hI.drewN _).drew hc8
                      clear hb8 hc8 hbW w1' w2' w3' hI c15 c2' c16 c7 s15 s2 s16 s7 n15 n2 n16 n7 HN
                      go_wp2_with fail
                      go_roundw
                      case rel => exact ⟨k + 1, by omega, by omega, by go_num, hI8, hW8⟩
                      case measure => simp [intOf]; omega
                    · have hk64 : ¬ (k : Int) < 64 := by omega
                      have hW64 : WS wr Wb p 64 0 := by
                        have : k = 64 := by omega
                        rw [← this]; exact hW
                      clear hW
                      have d0 : wr.cell? ⟨Hb, 0, none⟩ = some (.int .u32 (hh 0)) := hI.hs.cell 0
                      have d1 : wr.cell? ⟨Hb, 1, none⟩ = some (.int .u32 (hh 1)) := hI.hs.cell 1
                      have d2 : wr.cell? ⟨Hb, 2, none⟩ = some (.int .u32 (hh 2)) := hI.hs.cell 2
                      have d3 : wr.cell? ⟨Hb, 3, none⟩ = some (.int .u32 (hh 3)) := hI.hs.cell 3
                      have d4 : wr.cell? ⟨Hb, 4, none⟩ = some (.int .u32 (hh 4)) := hI.hs.cell 4
                      have d5 : wr.cell? ⟨Hb, 5, none⟩ = some (.int .u32 (hh 5)) := hI.hs.cell 5
                      have d6 : wr.cell? ⟨Hb, 6, none⟩ = some (.int .u32 (hh 6)) := hI.hs.cell 6
                      have d7 : wr.cell? ⟨Hb, 7, none⟩ = some (.int .u32 (hh 7)) := hI.hs.cell 7
                      go_wp2_with fail
                      clear d0 d1 d2 d3 d4 d5 d6 d7
                      have hWV : Wb < wr.heap.size := by obtain ⟨cs, hb, _⟩ := hW64; exact hb.lt
                      have hgV : g < wr.heap.size := (hI.own.lt g rfl).2
                      obtain ⟨w9, hw9⟩ : ∃ w9, w9 = wr.alloc (.cells #[.int .u32 (hh 0), .int .u32 (hh 1), .int .u32 (hh 2), .int .u32 (hh 3), .int .u32 (hh 4), .int .u32 (hh 5), .int .u32 (hh 6), .int .u32 (hh 7)] 61) := ⟨_, rfl⟩
                      rw [← hw9]
                      have hb9 : Blk w9 wr.heap.size 61 (vcells (rounds hh (wf p) 0)) := by rw [hw9]; exact Blk.new wr 61 (vcells hh)
                      have hc9 : Chg [] wr w9 := by rw [hw9]; exact (Chg.refl [] wr).alloc _
                      have I9 := hI.new hc9
                      have W9 := hW64.chg hc9 (by simp)
                      clear hw9 hc9 hI hW64
                      generalize wr.heap.size = Vb at *
                      have hVFar : ∀ (wx wy : World), RInv w wx w.heap.size Hb B0 hh (.slice (some ⟨g, o, none⟩) M.length cp) M.length M → Chg [Vb] wx wy → RInv w wy w.heap.size Hb B0 hh (.slice (some ⟨g, o, none⟩) M.length cp) M.length M := fun wx wy hx hc =>
                        hx.far hc (by omega) (by omega) (fun g' hg' => by simp [Value.ownBlock] at hg'; omega) (by omega)
                      have HVFAR : Hid _ := hVFar
                      clear hVFar
                      go_loopw [131] (fun iv wr => ∃ k : Nat, k ≤ 64 ∧ iv = .int .i64 k ∧ RInv w wr w.heap.size Hb B0 hh (.slice (some ⟨g, o, none⟩) M.length cp) M.length M ∧ WS wr Wb p 64 0 ∧ Blk wr Vb 61 (vcells (rounds hh (wf p) k))) (fun iv _ => 64 - (intOf iv).toNat)
                      case atStart => exact ⟨0, by omega, rfl, I9, W9, hb9⟩
                      case round =>
                        clear I9 W9 hb9
                        obtain ⟨k, hk, rfl, hI, hW, hbV⟩ := hrel
                        have hv := rounds_ok hok (wf p) k
                        have HR : Hid (rounds hh (wf p) (k + 1) = rnd (rounds hh (wf p) k) (Kf k) (wf p k)) := rfl
                        by_cases hlt7 : k < 64
                        · generalize rounds hh (wf p) k = v at hv hbV HR
                          have hc0 : wr.cell? ⟨Vb, 0, none⟩ = some (.int .u32 (v 0)) := hbV.cell 0
                          have hc1 : wr.cell? ⟨Vb, 1, none⟩ = some (.int .u32 (v 1)) := hbV.cell 1
                          have hc2 : wr.cell? ⟨Vb, 2, none⟩ = some (.int .u32 (v 2)) := hbV.cell 2
                          have hc3 : wr.cell? ⟨Vb, 3, none⟩ = some (.int .u32 (v 3)) := hbV.cell 3
                          have hc4 : wr.cell? ⟨Vb, 4, none⟩ = some (.int .u32 (v 4)) := hbV.cell 4
                          have hc5 : wr.cell? ⟨Vb, 5, none⟩ = some (.int .u32 (v 5)) := hbV.cell 5
                          have hc6 : wr.cell? ⟨Vb, 6, none⟩ = some (.int .u32 (v 6)) := hbV.cell 6
                          have hc7 : wr.cell? ⟨Vb, 7, none⟩ = some (.int .u32 (v 7)) := hbV.cell 7
                          have hz0 := hbV.frozen 0
                          have hz1 := hbV.frozen 1
                          have hz2 := hbV.frozen 2
                          have hz3 := hbV.frozen 3
                          have hz4 := hbV.frozen 4
                          have hz5 := hbV.frozen 5
                          have hz6 := hbV.frozen 6
                          have hz7 := hbV.frozen 7
                          obtain ⟨l0, m0⟩ := hv 0 (by omega)
                          obtain ⟨l4, m4⟩ := hv 4 (by omega)
                          have ck : wr.cell? ⟨w.heap.size, k, none⟩ = some (.int .u32 (Kf k)) := (hI.ks.cell k).trans (K64_at hlt7)
                          have cw : wr.cell? ⟨Wb, k, none⟩ = some (.int .u32 (wf p k)) := hW.at_ hlt7
                          go_wp2_with fail
                          go_quiet (fail)
                          go_wp2_with fail
                          go_quiet ((go_at_call 31; first | exact Calls.quiet_of_same (turn_any _ _ _ (by assumption) (by assumption) (by omega) (by omega)) | exact quiet_add_same (turn_any _ _ _ (by assumption) (by assumption) (by omega) (by omega))))
                          go_wp2_with fail
                          go_quiet ((go_at_call 31; first | exact Calls.quiet_of_same (turn_any _ _ _ (by assumption) (by assumption) (by omega) (by omega)) | exact quiet_add_same (turn_any _ _ _ (by assumption) (by assumption) (by omega) (by omega))))
                          go_wp2_with fail
                          clear hc0 hc1 hc2 hc3 hc4 hc5 hc6 hc7 ck cw hz0 hz1 hz2 hz3 hz4 hz5 hz6 hz7
                          go_roundw
                          case rel =>
                            refine ⟨k + 1, by omega, by go_num, HVFAR.out _ _ (hI.drewN _) (Chg.set8 _ _ _ _ _ _ _ _ _ _), (hW.chg ((Chg.refl [] wr).drewN _) (by simp)).chg (Chg.set8 _ _ _ _ _ _ _ _ _ _) (by simp; omega), ?_⟩
                            refine Eq.mp (congrArg (Blk _ _ _) ?_) (Blk.set8 (hbV.drewN _) _ _ _ _ _ _ _ _)
                            rw [HR.out]
                            rfl
                          case measure => simp [intOf]; omega
                        · have hge : ¬ (k : Int) < 64 := by omega
                          have hb64 : Blk wr Vb 61 (vcells (rounds hh (wf p) 64)) := by
                            have : k = 64 := by omega
                            rw [← this]; exact hbV
                          clear hbV HR hv hW
                          go_wp2_with fail
                          go_loopw [217] (fun iv wr => ∃ k : Nat, k ≤ 8 ∧ iv = .int .i64 k ∧ RInv w wr w.heap.size Hb B0 (fun j => if j < k then comp hh p j else hh j) (.slice (some ⟨g, o, none⟩) M.length cp) M.length M ∧ Blk wr Vb 61 (vcells (rounds hh (wf p) 64))) (fun iv _ => 8 - (intOf iv).toNat)
                          case atStart => exact ⟨0, by omega, rfl, by simpa using hI, hb64⟩
                          case round =>
                            clear hI hb64
                            obtain ⟨k, hk, rfl, hI, hbV⟩ := hrel
                            by_cases hlt8 : k < 8
                            · have cd : wr.cell? ⟨Hb, k, none⟩ = some (.int .u32 (hh k)) := (hI.hs.cell k).trans ((vcells_at hlt8).trans (by simp))
                              have cv : wr.cell? ⟨Vb, k, none⟩ = some (.int .u32 (rounds hh (wf p) 64 k)) := (hbV.cell k).trans (vcells_at hlt8)
                              have gk : (k : Int) < 8 := by omega
                              go_wp2_with fail
                              refine still_tail 8 (by kernel_rfl) (by kernel_rfl) ?_
                              simp only [List.take_succ_cons, List.take_zero, List.drop_succ_cons, List.drop_zero]
                              repeat still_step
                              refine wpStill_nil ?_
                              refine at_store_cell 60 _ _ Hb k (by rfl) (.int .u32 (comp hh p k)) ?_ rfl 61 _ hI.hs.drew (by kernel_rfl) (by simp [vcells]; omega) ?_
                              · refine Eq.trans (b := Value.int .u32 (IntKind.u32.wrap (hh k + rounds hh (wf p) 64 k))) rfl ?_
                                rw [IntKind.wrap_u32]; rfl
                              intro w6' hb6 hc6
                              rw [vcells_set hlt8] at hb6
                              have hb7 : Blk w6' Hb 61 (vcells (fun j => if j < k + 1 then comp hh p j else hh j)) := by
                                refine Eq.mp (congrArg (Blk _ _ _) (vcells_congr fun j hj => ?_)) hb6
                                by_cases e1 : j = k
                                · subst e1; simp
                                · by_cases e2 : j < k
                                  · have e3 : j < k + 1 := by omega
                                    simp [e1, e2, e3]
                                  · have e3 : ¬ j < k + 1 := by omega
                                    simp [e1, e2, e3]
                              have hI7 := hI.drew.put hKH hHB (Nat.le_refl _) hb7 hc6
                              have hv9 := hbV.drew.chg hc6 (by simp; omega)
                              clear hb6 hb7 hc6 hbV cd cv hI
                              go_wp2_with fail
                              go_roundw
                              case rel => exact ⟨k + 1, by omega, by go_num, hI7, hv9⟩
                              case measure => simp [intOf]; omega
                            · have hge : ¬ (k : Int) < 8 := by omega
                              have hI9 : RInv w wr w.heap.size Hb B0 (absorb IV M (b + 1)) (.slice (some ⟨g, o, none⟩) M.length cp) M.length M := by
                                have : k = 8 := by omega
                                subst this
                                rw [HA.out]
                                exact ⟨hI.chg, hI.ks, Eq.mp (congrArg (Blk _ _ _) (vcells_congr fun j hj => by simp [hj])) hI.hs, hI.own, hI.top⟩
                              clear hI hbV
                              go_wp2_with fail
                              go_roundw
                              case rel => exact ⟨b + 1, by omega, by go_num, hI9⟩
                              case measure => simp [intOf]; omega
            · have hge : ¬ 64 * (b : Int) < (M.length : Int) := by omega
              have hL : M.length / 64 = b := by omega
              rw [hL] at HS
              clear hL
              have hok := absorb_ok IV_ok b M
              generalize absorb IV M b = hf at hI hok HS
              have d0 : wr.cell? ⟨Hb, 0, none⟩ = some (.int .u32 (hf 0)) := hI.hs.cell 0
              have d1 : wr.cell? ⟨Hb, 1, none⟩ = some (.int .u32 (hf 1)) := hI.hs.cell 1
              have d2 : wr.cell? ⟨Hb, 2, none⟩ = some (.int .u32 (hf 2)) := hI.hs.cell 2
              have d3 : wr.cell? ⟨Hb, 3, none⟩ = some (.int .u32 (hf 3)) := hI.hs.cell 3
              have d4 : wr.cell? ⟨Hb, 4, none⟩ = some (.int .u32 (hf 4)) := hI.hs.cell 4
              have d5 : wr.cell? ⟨Hb, 5, none⟩ = some (.int .u32 (hf 5)) := hI.hs.cell 5
              have d6 : wr.cell? ⟨Hb, 6, none⟩ = some (.int .u32 (hf 6)) := hI.hs.cell 6
              have d7 : wr.cell? ⟨Hb, 7, none⟩ = some (.int .u32 (hf 7)) := hI.hs.cell 7
              go_wp2_with fail
              clear d0 d1 d2 d3 d4 d5 d6 d7
              have hc5 := hI.chg
              clear hI
              go_loopw [230, 22] (fun iv rv wr => ∃ k : Nat, ∃ Av cv, k ≤ 8 ∧ iv = .int .i64 k ∧ rv = .slice Av (4 * k) cv ∧ Own wr w.heap.size 5 1 rv (4 * k) (vb ((out hf).take (4 * k))) ∧ Chg [] w wr) (fun iv _ _ => 8 - (intOf iv).toNat)
              case atStart => exact ⟨0, none, 0, by omega, rfl, rfl, Own.nil _ _ _ _, hc5⟩
              case round =>
                clear hc5
                obtain ⟨k, Av, cv, hk, rfl, rfl, hown, hch⟩ := hrel
                by_cases hlt9 : k < 8
                · have hidx := idx8 hf hlt9
                  obtain ⟨hl0, hl1⟩ := hok k hlt9
                  have hsz := hch.size
                  go_wp2_with (at_builtin; refine wpList_append_mm _ rfl _ _ 22 rfl w.heap.size 5 i0 _ 1 1 Tryd.underlying22 hi0 hz0 hz1 hz2 rfl (by omega) (.slice Av (4 * k) cv) (4 * k) _ rfl (hown.alloc _) (some ⟨wr.heap.size, 0, none⟩) 4 4 [_, _, _, _] rfl (Rd.of_blk (Blk.new _ _ _) rfl rfl (Nat.le_refl _)) (by simp [Value.oneCell']) (by simp only [maxLen]; omega) (by omega) (by simp; omega) ?_; intro v2' w5' hown2 hg2 hat2)
                  obtain ⟨A3, c3, hv3, _, _⟩ := hown2.form
                  have hN : Own w5' w.heap.size 5 1 v2' (4 * (k + 1)) (vb ((out hf).take (4 * (k + 1)))) := by
                    rw [out_take hlt9, vb_append, word4_val hl0 hl1]
                    exact hown2
                  have hC : Chg [] w w5' := (hch.alloc _).step (Chg.of_grown (S := (Value.slice Av (4 * k) cv).ownBlock.toList) hg2 (fun g hg => by simp [hg])) (fun g hg => .inr (by
                    exact (hown.lt g (by simpa using hg)).1))
                  rw [hv3] at hN ⊢
                  go_roundw
                  case rel => exact ⟨k + 1, A3, c3, by omega, by go_num, rfl, hN, hC⟩
                  case measure => simp [intOf]; omega
                · have hge : ¬ (k : Int) < 8 := by omega
                  have hN : Own wr w.heap.size 5 1 (.slice Av (4 * k) cv) 32 (vb (sha m)) := by
                    have : k = 8 := by omega
                    subst this
                    rw [← HS.out]
                    exact hown
                  clear hown
                  go_wp2_with fail
                  go_ret
                  exact ⟨_, rfl, hN, hch⟩
end Go.Proofs.YtcpeldnikloebaaDoor
