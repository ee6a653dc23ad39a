/- The walk of the package's block function. -/
import Derived.Test.YtcpeldnikloebaaDoorProg
import Derived.Test.YtcpeldnikloebaaDoorMem
import Derived.Test.YtcpeldnikloebaaDoorShaP
import Derived.Outline
import Derived.KernelRfl
import Derived.StillTailTactics
import Derived.BigRegion
import Derived.BigQuiet
import Derived.Deep.QuietTactic
import Derived.Lib.Hide
set_option linter.unusedVariables false
set_option linter.unusedSimpArgs false
namespace Go.Proofs.YtcpeldnikloebaaDoor
open Go.RowKit Go.Mm Go.Sha
theorem quiet_add_same {P : Program} {f : FuncId} {args : Array Value} {w : World} {a n : Nat} {v : Value}
    (h : Calls P f args (w.drewN (a + n)) fun e w' => e = .returned v ∧ w' = w.drewN (a + n)) :
    Calls P f args (w.drewN (a + n)) fun e w'' => e = .returned v ∧ ∃ m, w'' = w.drewN (a + m) :=
  h.mono fun _ _ ⟨he, hm⟩ => ⟨he, n, hm⟩

set_option maxHeartbeats 400000 in
theorem rotl_any (x k : Int) (w : World) (_hx : 0 ≤ x) (_hx2 : x < 4294967296) :
    Calls Tryd.prog 62 #[.int .u32 x, .int .i64 k] w fun e w' => e = .returned (.int .u32 (rotk k x)) ∧ w' = w := by
  obtain ⟨h1, h2⟩ := and31 k
  have H : Hid (∀ s, bits BinOp.and IntKind.u64 (IntKind.u64.wrap k) 31 = s → bits .or .u32 (x * 2 ^ s.toNat % 4294967296) (x / 2 ^ (32 - s).toNat) = rotk k x) := by intro s hs; subst hs; rfl
  generalize hk : bits BinOp.and IntKind.u64 (IntKind.u64.wrap k) 31 = s at h1 h2
  have hk2 := hk
  go_enter Tryd.func62, Tryd.ntmps62
  go_wp2
  go_ret
  exact ⟨congrArg (fun z => Ending.returned (Value.int .u32 z)) (H.out s hk2), rfl⟩

/-- what the package's constants are -/
theorem consts_any (w : World) :
    Calls Tryd.prog 61 #[] w fun e w' => e = .returned (.agg K64) ∧ Chg [] w w' := by
  go_enter Tryd.func61, Tryd.ntmps61
  go_step
  go_step
  go_step
  refine wpList_val (by rfl) (.pointer (some ⟨w.heap.size, 0, none⟩)) (w' := w.alloc (.cells Z64 65)) (by kernel_rfl) ?_
  have hb := Blk.new w 65 Z64
  have hc := (Chg.refl [] w).alloc (.cells Z64 65)
  generalize w.alloc (.cells Z64 65) = w1 at hb hc
  refine wpList_nil ?_
  go_step
  go_step
  go_step
  go_step
  refine wpList_val (by rfl) (w' := w1) (.agg K64) (by kernel_rfl) ?_
  refine wpList_store_seg (by rfl) 65 _ _ rfl w.heap.size 0 rfl K64 rfl 65 Z64 hb (by kernel_rfl) (by decide +kernel) (by decide +kernel) ?_
  intro w2 hb2 hc2
  rw [splice_all (by decide +kernel), Array.toArray_toList] at hb2
  go_wp2
  refine bodyPost_ret (results_cell_row rfl _ _ w.heap.size 65 K64 (0, 0) _ rfl hb2 Tryd.underlying65 rfl (by kernel_rfl)) rfl ⟨rfl, ?_⟩
  exact hc.step hc2 (fun k hk => .inr (by simp at hk; omega))
/-- what stands in memory at the head of a round: n words of the schedule lie in block Wb -/
structure BInv (D A o Kb Wb : Nat) (h : H8) (bv nv : Value) (p : Nat → Int) (w : World) (n : Nat) (wr : World) : Prop where
  chg : Chg [] w wr
  dig : Blk wr D 63 (dcells h bv nv)
  ks : Blk wr Kb 65 K64
  ws : ∃ cs, Blk wr Wb 65 cs ∧ cs.size = 64 ∧ ∀ j, j < n → cs[j]? = some (.int .u32 (wf p j))
  src : ∀ j, j < 64 → wr.cell? ⟨A, o + j, none⟩ = some (.int .u8 (p j))
theorem BInv.step {D A o Kb Wb : Nat} {h : H8} {bv nv : Value} {p : Nat → Int} {w wr w' : World} {n : Nat} {cs : Array Value} (hi : BInv D A o Kb Wb h bv nv p w n wr) (hAw : A < w.heap.size) (hDK : D < Kb) (hKW : Kb < Wb) (hwK : w.heap.size ≤ Kb)
    (hn : n < 64) (hb : Blk w' Wb 65 (cs.setIfInBounds n (.int .u32 (wf p n)))) (hcs : cs.size = 64) (hj : ∀ j, j < n → cs[j]? = some (.int .u32 (wf p j))) (hc : Chg [Wb] wr w') : BInv D A o Kb Wb h bv nv p w (n + 1) w' where
  chg := hi.chg.step hc (fun k hk => .inr (by simp at hk; omega))
  dig := hi.dig.chg hc (by simp; omega)
  ks := hi.ks.chg hc (by simp; omega)
  ws := ⟨_, hb, by simpa using hcs, fun j hjn => by
    rw [Array.getElem?_setIfInBounds]
    by_cases e : n = j
    · subst e; simp [hcs, hn]
    · rw [if_neg e]; exact hj j (by omega)⟩
  src := fun j hj => (hc.cell (p := ⟨A, o + j, none⟩) (Nat.lt_of_lt_of_le hAw hi.chg.size) (by simp; omega)).trans (hi.src j hj)
theorem BInv.far {D A o Kb Wb Vb : Nat} {h : H8} {bv nv : Value} {p : Nat → Int} {w wr w' : World} {n : Nat} (hi : BInv D A o Kb Wb h bv nv p w n wr) (hAw : A < w.heap.size) (hDK : D < Kb) (hKW : Kb < Wb) (hwK : w.heap.size ≤ Kb)
    (hV : Wb < Vb) (hc : Chg [Vb] wr w') : BInv D A o Kb Wb h bv nv p w n w' where
  chg := hi.chg.step hc (fun k hk => .inr (by simp at hk; omega))
  dig := hi.dig.chg hc (by simp; omega)
  ks := hi.ks.chg hc (by simp; omega)
  ws := by
    obtain ⟨cs, hb, h1, h2⟩ := hi.ws
    exact ⟨cs, hb.chg hc (by simp; omega), h1, h2⟩
  src := fun j hj => (hc.cell (p := ⟨A, o + j, none⟩) (Nat.lt_of_lt_of_le hAw hi.chg.size) (by simp; omega)).trans (hi.src j hj)
theorem BInv.alloc {D A o Kb Wb : Nat} {h : H8} {bv nv : Value} {p : Nat → Int} {w wr : World} {n : Nat} (hi : BInv D A o Kb Wb h bv nv p w n wr) (hAw : A < w.heap.size) (ob : Obj) : BInv D A o Kb Wb h bv nv p w n (wr.alloc ob) :=
  ⟨hi.chg.alloc ob, hi.dig.alloc ob, hi.ks.alloc ob, by
    obtain ⟨cs, hb, h1, h2⟩ := hi.ws
    exact ⟨cs, hb.alloc ob, h1, h2⟩, fun j hj => (((Chg.refl [] wr).alloc ob).cell (p := ⟨A, o + j, none⟩) (Nat.lt_of_lt_of_le hAw hi.chg.size) (by simp)).trans (hi.src j hj)⟩
theorem BInv.drew {D A o Kb Wb : Nat} {h : H8} {bv nv : Value} {p : Nat → Int} {w wr : World} {n : Nat} (hi : BInv D A o Kb Wb h bv nv p w n wr) : BInv D A o Kb Wb h bv nv p w n wr.drew :=
  ⟨hi.chg.drew, hi.dig, hi.ks, hi.ws, hi.src⟩
theorem BInv.drewN {D A o Kb Wb : Nat} {h : H8} {bv nv : Value} {p : Nat → Int} {w wr : World} {n : Nat} (hi : BInv D A o Kb Wb h bv nv p w n wr) (m : Nat) : BInv D A o Kb Wb h bv nv p w n (wr.drewN m) :=
  ⟨hi.chg.drewN m, hi.dig, hi.ks, hi.ws, hi.src⟩

set_option maxRecDepth 100000 in
set_option maxHeartbeats 8000000 in
theorem block_any (D A o cap : Nat) (h : H8) (bv nv : Value) (p : Nat → Int) (w : World) (hh : H8ok h) (hp : ∀ j, j < 64 → 0 ≤ p j ∧ p j ≤ 255)
    (hd : Blk w D 63 (dcells h bv nv))
    (hA : A < w.heap.size) (hAD : A ≠ D) (hc : ∀ j, j < 64 → w.cell? ⟨A, o + j, none⟩ = some (.int .u8 (p j))) :
    Calls Tryd.prog 60 #[.pointer (some ⟨D, 0, none⟩), .slice (some ⟨A, o, none⟩) 64 cap] w fun e w' => e = .returned (.tuple #[]) ∧ Chg [D] w w' ∧
      Blk w' D 63 (dcells (comp h p) bv nv) := by
  have hDw := hd.lt
  go_enter Tryd.func60, Tryd.ntmps60
  go_wp2_with (first
    | (go_at_call 61; refine (consts_any _).mono ?_; rintro e w1 ⟨rfl, hc1⟩)
    | (have hD1 := hd.chg hc1 (by simp); have hs1 := hc1.size; refine at_alloc 65 Z64 (by kernel_rfl) ?_; intro w2 hb2 hc2 hs2; have hD2 := hD1.chg hc2 (by simp); have hc12 := hc1.trans hc2; clear hc1 hc2 hD1)
    | (refine at_store_seg 65 _ _ w1.heap.size 0 rfl K64 rfl 65 Z64 hb2 (by kernel_rfl) (by decide +kernel) (by decide +kernel) ?_; intro w3 hb3 hc3; rw [splice_all (by decide +kernel), Array.toArray_toList] at hb3; have hs3 := hc3.size; have hc4 := hc12.step hc3 (fun k hk => .inr (by simp at hk; omega)); have hD3 := hD2.chg hc3 (by simp; omega); clear hb2 hc12 hc3 hD2)
    | (refine at_alloc 65 Z64 (by kernel_rfl) ?_; intro w5 hb5 hc5 hs5; have hD5 := hD3.chg hc5 (by simp); have hK5 := hb3.chg hc5 (by simp); have hc6 := hc4.trans hc5; clear hc4 hc5 hD3 hb3))
  generalize hKb : w1.heap.size = Kb at *
  generalize hWb : w3.heap.size = Wb at *
  have hDK : D < Kb := by omega
  have hKW : Kb < Wb := by omega
  have hwK : w.heap.size ≤ Kb := hs1
  have hA5 : ∀ j, j < 64 → w5.cell? ⟨A, o + j, none⟩ = some (.int .u8 (p j)) := fun j hj => (hc6.cell (p := ⟨A, o + j, none⟩) hA (by simp)).trans (hc j hj)
  have hWs : Wb < w5.heap.size := hb5.lt
  have I0 : BInv D A o Kb Wb h bv nv p w 0 w5 := ⟨hc6, hD5, hK5, ⟨_, hb5, Z64_size, by omega⟩, hA5⟩
  clear hs2 hs3 hs5 hKb hWb hc hs1 hc6 hD5 hK5 hb5 hA5 hWs
  clear w2 w3 w1
  go_loopw [19] (fun i wr => ∃ k : Nat, k ≤ 16 ∧ i = .int .i64 k ∧ BInv D A o Kb Wb h bv nv p w k wr) (fun i _ => 16 - (intOf i).toNat)
  case atStart => exact ⟨0, by omega, rfl, I0⟩
  case round =>
    obtain ⟨k, hk, rfl, hI⟩ := hrel
    by_cases hlt : k < 16
    · have c0 := hI.src (4 * k) (by omega)
      have c1 := hI.src (4 * k + 1) (by omega)
      have c2 := hI.src (4 * k + 2) (by omega)
      have c3 := hI.src (4 * k + 3) (by omega)
      obtain ⟨cs, hb, hcs, hj⟩ := hI.ws
      have b0 := hp (4 * k) (by omega)
      have b1 := hp (4 * k + 1) (by omega)
      have b2 := hp (4 * k + 2) (by omega)
      have b3 := hp (4 * k + 3) (by omega)
      have s0 : IntKind.i64.wrap (4 * (k : Int)) = 4 * (k : Int) := IntWalk.i64_in _ (by omega)
      have s1 : IntKind.i64.wrap (4 * (k : Int) + 1) = 4 * (k : Int) + 1 := IntWalk.i64_in _ (by omega)
      have s2 : IntKind.i64.wrap (4 * (k : Int) + 2) = 4 * (k : Int) + 2 := IntWalk.i64_in _ (by omega)
      have s3 : IntKind.i64.wrap (4 * (k : Int) + 3) = 4 * (k : Int) + 3 := IntWalk.i64_in _ (by omega)
      have g0 : 0 ≤ 4 * (k : Int) ∧ 4 * (k : Int) < 64 := by omega
      have g1 : 0 ≤ 4 * (k : Int) + 1 ∧ 4 * (k : Int) + 1 < 64 := by omega
      have g2 : 0 ≤ 4 * (k : Int) + 2 ∧ 4 * (k : Int) + 2 < 64 := by omega
      have g3 : 0 ≤ 4 * (k : Int) + 3 ∧ 4 * (k : Int) + 3 < 64 := by omega
      have gk : (k : Int) < 64 := by omega
      have n0 : (4 * (k : Int)).toNat = 4 * k := by omega
      have n1 : (4 * (k : Int) + 1).toNat = 4 * k + 1 := by omega
      have n2 : (4 * (k : Int) + 2).toNat = 4 * k + 2 := by omega
      have n3 : (4 * (k : Int) + 3).toNat = 4 * k + 3 := by omega
      have e0 : IntKind.u32.wrap (p (4 * k)) = p (4 * k) := IntWalk.u32_in _ (by omega)
      have e1 : IntKind.u32.wrap (p (4 * k + 1)) = p (4 * k + 1) := IntWalk.u32_in _ (by omega)
      have e2 : IntKind.u32.wrap (p (4 * k + 2)) = p (4 * k + 2) := IntWalk.u32_in _ (by omega)
      have e3 : IntKind.u32.wrap (p (4 * k + 3)) = p (4 * k + 3) := IntWalk.u32_in _ (by omega)
      have f0 : IntKind.u32.wrap (p (4 * k) * 16777216) = p (4 * k) * 16777216 := IntWalk.u32_in _ (by omega)
      have f1 : IntKind.u32.wrap (p (4 * k + 1) * 65536) = p (4 * k + 1) * 65536 := IntWalk.u32_in _ (by omega)
      have f2 : IntKind.u32.wrap (p (4 * k + 2) * 256) = p (4 * k + 2) * 256 := IntWalk.u32_in _ (by omega)
      go_wp2_with fail
      go_still_tail 35, (by kernel_rfl)
      change wpList _ _ _ _ _ wr.drew
      refine at_store_cell 60 _ _ Wb k rfl (.int .u32 (wf p k)) ?_ rfl 65 cs hb.drew (by kernel_rfl) (by omega) ?_
      · rw [wf_small p hlt]; rfl
      intro w6 hb6 hc6
      have I6 := hI.drew.step hA hDK hKW hwK (by omega) hb6 hcs hj hc6
      clear hI hb hb6 hc6 hj c0 c1 c2 c3 e0 e1 e2 e3 f0 f1 f2 s0 s1 s2 s3 n0 n1 n2 n3
      go_wp2_with fail
      go_roundw
      case rel => exact ⟨k + 1, by omega, by go_num, I6⟩
      case measure => simp [intOf]; omega
    · have hI16 : BInv D A o Kb Wb h bv nv p w 16 wr := by
        have hk16 : k = 16 := by omega
        rw [← hk16]; exact hI
      clear hI
      have hge : ¬ (k : Int) < 16 := by omega
      go_wp2_with fail
      go_loopw [7] (fun i wr => ∃ k : Nat, 16 ≤ k ∧ k ≤ 64 ∧ i = .int .i64 k ∧ BInv D A o Kb Wb h bv nv p w k wr) (fun i _ => 64 - (intOf i).toNat)
      case atStart => exact ⟨16, by omega, by omega, rfl, hI16⟩
      case round =>
        clear hI16
        obtain ⟨k, hk16, hk, rfl, hI⟩ := hrel
        by_cases hlt : k < 64
        · obtain ⟨cs, hb, hcs, hj⟩ := hI.ws
          have c15 := (hb.cell (k - 15)).trans (hj (k - 15) (by omega))
          have c2 := (hb.cell (k - 2)).trans (hj (k - 2) (by omega))
          have c16 := (hb.cell (k - 16)).trans (hj (k - 16) (by omega))
          have c7 := (hb.cell (k - 7)).trans (hj (k - 7) (by omega))
          obtain ⟨l15, m15⟩ := wf_bd p (k - 15)
          obtain ⟨l2, m2⟩ := wf_bd p (k - 2)
          have s15 : IntKind.i64.wrap ((k : Int) - 15) = (k : Int) - 15 := IntWalk.i64_in _ (by omega)
          have s2 : IntKind.i64.wrap ((k : Int) - 2) = (k : Int) - 2 := IntWalk.i64_in _ (by omega)
          have s16 : IntKind.i64.wrap ((k : Int) - 16) = (k : Int) - 16 := IntWalk.i64_in _ (by omega)
          have s7 : IntKind.i64.wrap ((k : Int) - 7) = (k : Int) - 7 := IntWalk.i64_in _ (by omega)
          have g15 : 0 ≤ (k : Int) - 15 ∧ (k : Int) - 15 < 64 := by omega
          have g2 : 0 ≤ (k : Int) - 2 ∧ (k : Int) - 2 < 64 := by omega
          have g16 : 0 ≤ (k : Int) - 16 ∧ (k : Int) - 16 < 64 := by omega
          have g7 : 0 ≤ (k : Int) - 7 ∧ (k : Int) - 7 < 64 := by omega
          have gk : (k : Int) < 64 := by omega
          have q16 : (16 : Int) ≤ k := by omega
          have q7 : (7 : Int) ≤ k := by omega
          have q80 : (k : Int) < 64 + 16 := by omega
          have q71 : (k : Int) < 64 + 7 := by omega
          have r80 : (k : Int) < 80 := by omega
          have r71 : (k : Int) < 71 := by omega
          have n15 : ((k : Int) - 15).toNat = k - 15 := by omega
          have n2 : ((k : Int) - 2).toNat = k - 2 := by omega
          have n16 : ((k : Int) - 16).toNat = k - 16 := by omega
          have n7 : ((k : Int) - 7).toNat = k - 7 := by omega
          go_wp2_with fail
          go_quiet (fail)
          go_wp2_with (go_at_call 62; refine (rotl_any _ _ _ (by assumption) (by assumption)).mono ?_; rintro e w' ⟨rfl, rfl⟩)
          refine still_tail 15 (by kernel_rfl) (by kernel_rfl) ?_
          simp only [List.take_succ_cons, List.take_zero, List.drop_succ_cons, List.drop_zero]
          repeat still_step
          refine wpStill_nil ?_
          refine at_store_cell 60 _ _ Wb k rfl (.int .u32 (wf p k)) ?_ rfl 65 cs (hb.drewN _).drew (by kernel_rfl) (by omega) ?_
          · refine Eq.trans (b := Value.int .u32 (IntKind.u32.wrap (IntKind.u32.wrap (IntKind.u32.wrap (wf p (k - 16) + _) + wf p (k - 7)) + _))) rfl ?_
            rw [nextw_wrap, wf_next p hk16]
            simp only [rot7, rot18, rot17, rot19]
            rfl
          intro w6 hb6 hc6
          have I6 := (hI.drewN _).drew.step hA hDK hKW hwK (by omega) hb6 hcs hj hc6
          clear hI hb hb6 hc6 hj c15 c2 c16 c7 s15 s2 s16 s7 n15 n2 n16 n7
          go_wp2_with fail
          go_roundw
          case rel => exact ⟨k + 1, by omega, by omega, by go_num, I6⟩
          case measure => simp [intOf]; omega
        · have hI64 : BInv D A o Kb Wb h bv nv p w 64 wr := by
            have hk64 : k = 64 := by omega
            rw [← hk64]; exact hI
          clear hI
          have d0 : wr.cell? ⟨D, 0, none⟩ = some (.int .u32 (h 0)) := hI64.dig.cell 0
          have d1 : wr.cell? ⟨D, 1, none⟩ = some (.int .u32 (h 1)) := hI64.dig.cell 1
          have d2 : wr.cell? ⟨D, 2, none⟩ = some (.int .u32 (h 2)) := hI64.dig.cell 2
          have d3 : wr.cell? ⟨D, 3, none⟩ = some (.int .u32 (h 3)) := hI64.dig.cell 3
          have d4 : wr.cell? ⟨D, 4, none⟩ = some (.int .u32 (h 4)) := hI64.dig.cell 4
          have d5 : wr.cell? ⟨D, 5, none⟩ = some (.int .u32 (h 5)) := hI64.dig.cell 5
          have d6 : wr.cell? ⟨D, 6, none⟩ = some (.int .u32 (h 6)) := hI64.dig.cell 6
          have d7 : wr.cell? ⟨D, 7, none⟩ = some (.int .u32 (h 7)) := hI64.dig.cell 7
          have hge : ¬ (k : Int) < 64 := by omega
          go_wp2_with fail
          clear d0 d1 d2 d3 d4 d5 d6 d7
          have hWV : Wb < wr.heap.size := by obtain ⟨cs, hb, _⟩ := hI64.ws; exact hb.lt
          obtain ⟨w7, hw7⟩ : ∃ w7, w7 = wr.alloc (.cells #[.int .u32 (h 0), .int .u32 (h 1), .int .u32 (h 2), .int .u32 (h 3), .int .u32 (h 4), .int .u32 (h 5), .int .u32 (h 6), .int .u32 (h 7)] 61) := ⟨_, rfl⟩
          rw [← hw7]
          have hb7 : Blk w7 wr.heap.size 61 (vcells (rounds h (wf p) 0)) := by rw [hw7]; exact Blk.new wr 61 (vcells h)
          have I7 : BInv D A o Kb Wb h bv nv p w 64 w7 := by rw [hw7]; exact hI64.alloc hA _
          clear hw7 hI64
          generalize wr.heap.size = Vb at *
          go_loopw [105] (fun i wr => ∃ k : Nat, k ≤ 64 ∧ i = .int .i64 k ∧ BInv D A o Kb Wb h bv nv p w 64 wr ∧ Blk wr Vb 61 (vcells (rounds h (wf p) k))) (fun i _ => 64 - (intOf i).toNat)
          case atStart => exact ⟨0, by omega, rfl, I7, hb7⟩
          case round =>
            clear I7 hb7
            obtain ⟨k, hk, rfl, hI, hb⟩ := hrel
            have hv := rounds_ok hh (wf p) k
            have HR : Hid (rounds h (wf p) (k + 1) = rnd (rounds h (wf p) k) (Kf k) (wf p k)) := rfl
            by_cases hlt : k < 64
            · generalize rounds h (wf p) k = v at hv hb HR
              have hc0 : wr.cell? ⟨Vb, 0, none⟩ = some (.int .u32 (v 0)) := hb.cell 0
              have hc1 : wr.cell? ⟨Vb, 1, none⟩ = some (.int .u32 (v 1)) := hb.cell 1
              have hc2 : wr.cell? ⟨Vb, 2, none⟩ = some (.int .u32 (v 2)) := hb.cell 2
              have hc3 : wr.cell? ⟨Vb, 3, none⟩ = some (.int .u32 (v 3)) := hb.cell 3
              have hc4 : wr.cell? ⟨Vb, 4, none⟩ = some (.int .u32 (v 4)) := hb.cell 4
              have hc5 : wr.cell? ⟨Vb, 5, none⟩ = some (.int .u32 (v 5)) := hb.cell 5
              have hc6 : wr.cell? ⟨Vb, 6, none⟩ = some (.int .u32 (v 6)) := hb.cell 6
              have hc7 : wr.cell? ⟨Vb, 7, none⟩ = some (.int .u32 (v 7)) := hb.cell 7
              have hz0 := hb.frozen 0
              have hz1 := hb.frozen 1
              have hz2 := hb.frozen 2
              have hz3 := hb.frozen 3
              have hz4 := hb.frozen 4
              have hz5 := hb.frozen 5
              have hz6 := hb.frozen 6
              have hz7 := hb.frozen 7
              obtain ⟨l0, m0⟩ := hv 0 (by omega)
              obtain ⟨l4, m4⟩ := hv 4 (by omega)
              have ck : wr.cell? ⟨Kb, k, none⟩ = some (.int .u32 (Kf k)) := (hI.ks.cell k).trans (K64_at hlt)
              have cw : wr.cell? ⟨Wb, k, none⟩ = some (.int .u32 (wf p k)) := by
                obtain ⟨cs, hbw, _, hj⟩ := hI.ws
                exact (hbw.cell k).trans (hj k hlt)
              go_wp2_with fail
              go_quiet ((go_at_call 62; exact Calls.quiet_of_same (rotl_any _ _ _ (by assumption) (by assumption))))
              go_wp2_with fail
              go_quiet (fail)
              go_wp2_with fail
              go_quiet ((go_at_call 62; first | exact Calls.quiet_of_same (rotl_any _ _ _ (by assumption) (by assumption)) | exact quiet_add_same (rotl_any _ _ _ (by assumption) (by assumption))))
              go_wp2_with fail
              clear hc0 hc1 hc2 hc3 hc4 hc5 hc6 hc7 ck cw hz0 hz1 hz2 hz3 hz4 hz5 hz6 hz7
              go_roundw
              case rel =>
                refine ⟨k + 1, by omega, by go_num, (hI.drewN _).far hA hDK hKW hwK hWV (Chg.set8 _ _ _ _ _ _ _ _ _ _), ?_⟩
                refine Eq.mp (congrArg (Blk _ _ _) ?_) (Blk.set8 (hb.drewN _) _ _ _ _ _ _ _ _)
                rw [HR.out]
                simp only [rot2, rot6, rot11, rot13, rot22, rot25]
                rfl
              case measure => simp [intOf]; omega
            · have hge : ¬ (k : Int) < 64 := by omega
              have hb64 : Blk wr Vb 61 (vcells (rounds h (wf p) 64)) := by
                have : k = 64 := by omega
                rw [← this]; exact hb
              clear hb HR hv
              go_wp2_with fail
              have c8 : Chg [D] w wr := hI.chg.mono (by simp)
              have dg0 := hI.dig
              clear hI
              go_loopw [195] (fun i wr => ∃ k : Nat, k ≤ 8 ∧ i = .int .i64 k ∧ Chg [D] w wr ∧ Blk wr D 63 (dcells (fun j => if j < k then comp h p j else h j) bv nv) ∧ Blk wr Vb 61 (vcells (rounds h (wf p) 64))) (fun i _ => 8 - (intOf i).toNat)
              case atStart => exact ⟨0, by omega, rfl, c8, (by simpa using dg0), hb64⟩
              case round =>
                clear dg0 hb64 c8
                obtain ⟨k, hk, rfl, hc8, hdg, hvb⟩ := hrel
                by_cases hlt : k < 8
                · have cd : wr.cell? ⟨D, k, none⟩ = some (.int .u32 (h k)) := (hdg.cell k).trans ((dcells_at hlt).trans (by simp))
                  have cv : wr.cell? ⟨Vb, k, none⟩ = some (.int .u32 (rounds h (wf p) 64 k)) := (hvb.cell k).trans (vcells_at hlt)
                  have gk : (k : Int) < 8 := by omega
                  go_wp2_with fail
                  refine still_tail 13 (by kernel_rfl) (by kernel_rfl) ?_
                  simp only [List.take_succ_cons, List.take_zero, List.drop_succ_cons, List.drop_zero]
                  repeat still_step
                  refine wpStill_nil ?_
                  refine at_store_cell 60 _ _ D k rfl (.int .u32 (comp h p k)) ?_ rfl 63 _ hdg.drew (by kernel_rfl) (by simp [dcells]; omega) ?_
                  · refine Eq.trans (b := Value.int .u32 (IntKind.u32.wrap (h k + rounds h (wf p) 64 k))) rfl ?_
                    rw [IntKind.wrap_u32]; rfl
                  intro w6 hb6 hc6
                  rw [dcells_set hlt] at hb6
                  have hb7 : Blk w6 D 63 (dcells (fun j => if j < k + 1 then comp h p j else h j) bv nv) := by
                    refine Eq.mp (congrArg (Blk _ _ _) (dcells_congr fun j hj => ?_)) hb6
                    by_cases e1 : j = k
                    · subst e1; simp
                    · by_cases e2 : j < k
                      · have e3 : j < k + 1 := by omega
                        simp [e1, e2, e3]
                      · have e3 : ¬ j < k + 1 := by omega
                        simp [e1, e2, e3]
                  have hc9 := hc8.drew.trans hc6
                  have hv9 := hvb.drew.chg hc6 (by simp; omega)
                  clear hb6 hc6 hdg hvb hc8 cd cv
                  go_wp2_with fail
                  go_roundw
                  case rel => exact ⟨k + 1, by omega, by go_num, hc9, hb7, hv9⟩
                  case measure => simp [intOf]; omega
                · have hge : ¬ (k : Int) < 8 := by omega
                  have hb9 : Blk wr D 63 (dcells (comp h p) bv nv) := by
                    have : k = 8 := by omega
                    subst this
                    refine Eq.mp (congrArg (Blk _ _ _) (dcells_congr fun j hj => ?_)) hdg
                    simp [hj]
                  clear hdg
                  go_wp2_with fail
                  go_end0
                  exact ⟨rfl, hc8, hb9⟩
end Go.Proofs.YtcpeldnikloebaaDoor
