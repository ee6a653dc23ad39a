/- The walk of the package's Sum. -/
import Derived.Test.YtcpeldnikloebaaDoorShaD
set_option linter.unusedVariables false
set_option linter.unusedSimpArgs false
namespace Go.Proofs.YtcpeldnikloebaaDoor
open Go.RowKit Go.Mm Go.Sha
/-- Sum's own state: the copy C of the digest, the padding so far -/
structure SInv (w w' : World) (C : Nat) (hh : H8) (A1 : Option Addr) (r c1 : Nat) (m rest : List Int) (pv : Value) (pl : List Int) : Prop where
  blk : Blk w' C 63 (dcells hh (.slice A1 r c1) (.int .u64 m.length))
  own : Own w' w.heap.size 5 1 (.slice A1 r c1) r (vb rest)
  pad : Own w' w.heap.size 5 1 pv pl.length (vb pl)
  chg : Chg [] w w'
  new : w.heap.size ≤ C
  a1 : pv.ownBlock ≠ some C
  a2 : ∀ g, pv.ownBlock = some g → (Value.slice A1 r c1).ownBlock ≠ some g
  a3 : (Value.slice A1 r c1).ownBlock ≠ some C
theorem SInv.push {w wr w2 : World} {C : Nat} {hh : H8} {A1 : Option Addr} {r c1 : Nat} {m rest : List Int} {pv v2 : Value} {pl : List Int} {x : Int} {ob : Obj} (hI : SInv w wr C hh A1 r c1 m rest pv pl)
    (hown : Own w2 w.heap.size 5 1 v2 (pl.length + 1) (vb pl ++ [.int .u8 x])) (hg : (wr.alloc ob).grownBy w2 pv.ownBlock) (hat : v2.ownBlock = pv.ownBlock ∨ v2.ownBlock = some (wr.alloc ob).heap.size) : SInv w w2 C hh A1 r c1 m rest v2 (pl ++ [x]) := by
  have hsz : (wr.alloc ob).heap.size = wr.heap.size + 1 := by simp
  have hnew : ∀ g, v2.ownBlock = some g → pv.ownBlock = some g ∨ wr.heap.size < g := fun g hg2 => by
    rcases hat with h | h
    · left; rw [← h]; exact hg2
    · right; rw [hg2] at h; injection h with h; omega
  have hc : Chg pv.ownBlock.toList wr w2 := ((Chg.refl _ wr).alloc ob).trans (Chg.of_grown hg (fun k hk => by simp [hk]))
  exact {
    blk := hI.blk.chg hc (fun h => hI.a1 (by simpa using h))
    own := hI.own.chg hc (fun g hg2 h => hI.a2 g (by simpa using h) hg2)
    pad := by
      have e : vb (pl ++ [x]) = vb pl ++ [.int .u8 x] := by rw [vb_append]; rfl
      rw [e, List.length_append]; exact hown
    chg := (hI.chg.step hc (fun k hk => .inr (by
      have := (hI.pad.lt k (by simpa using hk)).1
      omega)))
    new := hI.new
    a1 := fun h => by
      rcases hnew C h with h | h
      · exact hI.a1 h
      · have := hI.blk.lt; omega
    a2 := fun g h h2 => by
      rcases hnew g h with h3 | h3
      · exact hI.a2 g h3 h2
      · have := (hI.own.lt g h2).2; omega
    a3 := hI.a3 }

theorem idx8 (h : H8) {k : Nat} (hk : k < 8) (w : World) : (Instr.index 61 (.agg #[.int .u32 (h 0), .int .u32 (h 1), .int .u32 (h 2), .int .u32 (h 3), .int .u32 (h 4), .int .u32 (h 5), .int .u32 (h 6), .int .u32 (h 7)]) (.int .i64 (k : Int))).run Tryd.prog w = .ok (.int .u32 (h k)) w := by
  rcases lt8 hk with rfl | rfl | rfl | rfl | rfl | rfl | rfl | rfl <;> kernel_rfl

set_option maxHeartbeats 4000000 in
theorem shasum_any (D base : Nat) (m : List Int) (A : Option Addr) (r c : Nat) (w : World) (hd : Dg w D base (.slice A r c) m) (hsm : m.length + 128 < 1099511627776) :
    Calls Tryd.prog 58 #[.pointer (some ⟨D, 0, none⟩), .slice none 0 0] w fun e w' => ∃ v, e = .returned v ∧ Own w' w.heap.size 5 1 v 32 (vb (sha m)) ∧ Chg [] w w' := by
  obtain ⟨i0, hi0, hz0, hz1, hz2⟩ := info_parts info_u8
  have hr : r = m.length - 64 * (m.length / 64) := by
    obtain ⟨A', c', h, _⟩ := hd.own.form
    injection h
  have e0 : w.cell? ⟨D, 0, none⟩ = some (.int .u32 (absorb IV m (m.length / 64) 0)) := hd.blk.cell 0
  have e1 : w.cell? ⟨D, 1, none⟩ = some (.int .u32 (absorb IV m (m.length / 64) 1)) := hd.blk.cell 1
  have e2 : w.cell? ⟨D, 2, none⟩ = some (.int .u32 (absorb IV m (m.length / 64) 2)) := hd.blk.cell 2
  have e3 : w.cell? ⟨D, 3, none⟩ = some (.int .u32 (absorb IV m (m.length / 64) 3)) := hd.blk.cell 3
  have e4 : w.cell? ⟨D, 4, none⟩ = some (.int .u32 (absorb IV m (m.length / 64) 4)) := hd.blk.cell 4
  have e5 : w.cell? ⟨D, 5, none⟩ = some (.int .u32 (absorb IV m (m.length / 64) 5)) := hd.blk.cell 5
  have e6 : w.cell? ⟨D, 6, none⟩ = some (.int .u32 (absorb IV m (m.length / 64) 6)) := hd.blk.cell 6
  have e7 : w.cell? ⟨D, 7, none⟩ = some (.int .u32 (absorb IV m (m.length / 64) 7)) := hd.blk.cell 7
  have e8 : w.cell? ⟨D, 8, none⟩ = some (.slice A r c) := hd.blk.cell 8
  have e9 : w.cell? ⟨D, 9, none⟩ = some (.int .u64 m.length) := hd.blk.cell 9
  have hDw := hd.blk.lt
  have hrd : Rd w 1 A r (vb (m.drop (64 * (m.length / 64)))) := by
    have := hd.own
    rw [← hr] at this
    exact this.rd
  have hr64 : r < 64 := by omega
  have b2 : m.length < 1099511627776 := hd.small
  have hmb := hd.bytes
  have hl1 : Own (w.alloc (.cells #[] 5)) w.heap.size 5 1 (.slice (some ⟨w.heap.size, 0, none⟩) 0 0) 0 [] := Own.lit w #[] 0 (Nat.le_refl _) (by simp [maxLen]) rfl
  generalize hhh : absorb IV m (m.length / 64) = hh at e0 e1 e2 e3 e4 e5 e6 e7
  have HH : Hid (absorb IV m (m.length / 64) = hh) := hhh
  clear hd hhh
  have HR : Hid (r = m.length - 64 * (m.length / 64)) := hr
  clear hr
  go_enter Tryd.func58, Tryd.ntmps58
  go_wp2_with fail
  go_region_held3 (fun w' => w'.cell? ⟨D, 0, none⟩ = some (.int .u32 (hh 0)) ∧ w'.cell? ⟨D, 1, none⟩ = some (.int .u32 (hh 1)) ∧ w'.cell? ⟨D, 2, none⟩ = some (.int .u32 (hh 2)) ∧ w'.cell? ⟨D, 3, none⟩ = some (.int .u32 (hh 3)) ∧ w'.cell? ⟨D, 4, none⟩ = some (.int .u32 (hh 4)) ∧ w'.cell? ⟨D, 5, none⟩ = some (.int .u32 (hh 5)) ∧ w'.cell? ⟨D, 6, none⟩ = some (.int .u32 (hh 6)) ∧ w'.cell? ⟨D, 7, none⟩ = some (.int .u32 (hh 7)) ∧ w'.cell? ⟨D, 8, none⟩ = some (.slice A r c) ∧ w'.cell? ⟨D, 9, none⟩ = some (.int .u64 m.length))
    (first
      | go_keep
      | (go_split_ands; refine ⟨?_, ?_, ?_, ?_, ?_, ?_, ?_, ?_, ?_, ?_⟩ <;> (rw [hg1.cell_far _ (by simp; omega) (by simp [Value.ownBlock]; omega)]; assumption)))
    ((refine step_append_mm _ (by rfl) _ _ _ (by rfl) w.heap.size 5 i0 _ 1 1 Tryd.underlying22 hi0 hz0 hz1 hz2 rfl (by omega) (.slice (some ⟨w.heap.size, 0, none⟩) 0 0) 0 [] (by rfl) (hl1.drew) A r c _ (by rfl) ((hrd.drew).alloc _) (vb_one _) (by simp only [maxLen]; omega) (by omega) (by simp) ?_; intro v1 w1 hown1 hg1 hat1; obtain ⟨A1, c1, hv1, hle1, hmx1⟩ := hown1.form; subst hv1))
  go_wp2_with fail
  obtain ⟨w2, hw2⟩ : ∃ w2, w2 = (w1.alloc (.cells #[.int .u32 (hh 0), .int .u32 (hh 1), .int .u32 (hh 2), .int .u32 (hh 3), .int .u32 (hh 4), .int .u32 (hh 5), .int .u32 (hh 6), .int .u32 (hh 7), .slice A1 r c1, .int .u64 m.length] 63)).alloc (.cells #[.int .u8 128] 5) := ⟨_, rfl⟩
  rw [← hw2]
  have hs1 : w.heap.size + 1 ≤ w1.heap.size := by have := hg1.size; simp at this; omega
  have hI0 : SInv w w2 w1.heap.size hh A1 r c1 m (m.drop (64 * (m.length / 64))) (.slice (some ⟨w1.heap.size + 1, 0, none⟩) 1 1) [128] := by
    have hc01 : Chg [] w w1 := ((Chg.refl [] w).alloc (.cells #[] 5)).drew.step (Chg.of_grown (S := [w.heap.size]) hg1 (fun k hk => by simp [Value.ownBlock] at hk; simp [hk])) (fun k hk => .inr (by simp at hk; omega))
    simp only [Nat.zero_add, List.nil_append] at hown1
    have hlt := hown1.lt
    have hB : Blk (w1.alloc (.cells (dcells hh (.slice A1 r c1) (.int .u64 m.length)) 63)) w1.heap.size 63 (dcells hh (.slice A1 r c1) (.int .u64 m.length)) := Blk.new _ _ _
    rw [hw2]
    exact {
      blk := hB.alloc _
      own := (hown1.alloc _).alloc _
      pad := by
        have := Own.lit (base := w.heap.size) (e := 5) (size := 1) (w1.alloc (.cells (dcells hh (.slice A1 r c1) (.int .u64 m.length)) 63)) #[.int .u8 128] 1 (by simp; omega) (by simp [maxLen]) (by simp)
        have e : (w1.alloc (.cells (dcells hh (.slice A1 r c1) (.int .u64 m.length)) 63)).heap.size = w1.heap.size + 1 := by simp
        rw [e] at this
        exact this
      chg := (hc01.alloc _).alloc _
      new := by omega
      a1 := by simp [Value.ownBlock]
      a2 := fun g hg h => by
        simp [Value.ownBlock] at hg
        have := (hlt g h).2
        omega
      a3 := fun h => by have := (hlt _ h).2; omega }
  rename (World.cell? _ _ = _ ∧ _) => hHeld
  clear hHeld
  clear hw2 hown1 hg1 hat1 hle1 hmx1 hrd hl1 e0 e1 e2 e3 e4 e5 e6 e7 e8 e9 hs1
  generalize w1.heap.size = C at *
  clear w1
  go_loopw [7] (fun pv wr => ∃ z : Nat, ∃ Ap cp, z ≤ zeros m.length ∧ pv = .slice Ap (1 + z) cp ∧ SInv w wr C hh A1 r c1 m (m.drop (64 * (m.length / 64))) pv (128 :: List.replicate z 0)) (fun pv _ => match pv with | .slice _ n _ => 65 - n | _ => 0)
  case atStart => exact ⟨0, _, _, by omega, rfl, hI0⟩
  case round =>
    clear hI0
    obtain ⟨z, Ap, cp, hz, rfl, hI⟩ := hrel
    have e8 : wr.cell? ⟨C, 8, none⟩ = some (.slice A1 r c1) := hI.blk.cell 8
    have hzz : Hid (z ≤ (119 - m.length % 64) % 64) := hz
    by_cases hlt : z < zeros m.length
    · have hne : Hid ((r + (1 + z)) % 64 ≠ 56) := by
        have := HR.out
        unfold zeros at hlt
        show (r + (1 + z)) % 64 ≠ 56
        omega
      have hne2 : (((r : Int) + (1 + (z : Int))) % 64 != 56) = true := by
        have := hne.out
        simp; omega
      have hz64 : z < 64 := by have := hzz.out; omega
      have hpad : Own wr w.heap.size 5 1 (.slice Ap (1 + z) cp) (1 + z) (vb (128 :: List.replicate z 0)) := by
        have := hI.pad
        rwa [show (128 :: List.replicate z (0 : Int)).length = 1 + z by simp; omega] at this
      go_wp2_with (at_builtin; refine wpList_append_mm _ rfl _ _ 22 rfl w.heap.size 5 i0 _ 1 1 Tryd.underlying22 hi0 hz0 hz1 hz2 rfl (by omega) (.slice Ap (1 + z) cp) (1 + z) _ rfl (hpad.alloc _) (some ⟨wr.heap.size, 0, none⟩) 1 1 [.int .u8 0] rfl (Rd.of_blk (Blk.new _ _ _) rfl rfl (Nat.le_refl _)) (by simp [Value.oneCell']) (by simp only [maxLen]; omega) (by omega) (by have := hI.chg.size; simp; omega) ?_; intro v2 w3 hown2 hg2 hat2)
      obtain ⟨A2, c2, hv2, _, _⟩ := hown2.form
      have hN := hI.push (x := 0) (v2 := v2) (by rw [show (128 :: List.replicate z (0 : Int)).length + 1 = 1 + z + 1 by simp; omega]; exact hown2) hg2 hat2
      rw [show (128 :: List.replicate z (0 : Int)) ++ [0] = 128 :: List.replicate (z + 1) 0 by rw [List.replicate_succ']; rfl] at hN
      rw [hv2] at hN ⊢
      go_roundw
      case rel => exact ⟨z + 1, A2, c2, by omega, rfl, hN⟩
      case measure => simp; omega
    · have hzz2 : zeros m.length = z := by omega
      have hne : (r + (1 + z)) % 64 = 56 := by
        have := HR.out
        unfold zeros at hlt hz
        omega
      have hne2 : (((r : Int) + (1 + (z : Int))) % 64 != 56) = false := by
        simp; omega
      have hz64 : z < 64 := by have := hzz.out; omega
      have HZ : Hid (zeros m.length = z) := hzz2
      clear hzz2 hne
      go_wp2_with fail
      go_loopw [7, 8] (fun pv iv wr => ∃ k : Nat, ∃ i : Int, ∃ Ap cp, k ≤ 8 ∧ i = 7 - (k : Int) ∧ iv = .int .i64 i ∧ pv = .slice Ap (1 + z + k) cp ∧ SInv w wr C hh A1 r c1 m (m.drop (64 * (m.length / 64))) pv ((128 :: List.replicate z 0) ++ (len8 m.length).take k)) (fun _ iv _ => (intOf iv + 1).toNat)
      case atStart => exact ⟨0, 7, Ap, cp, by omega, rfl, rfl, rfl, by simpa using hI⟩
      case round =>
        clear hI e8 hne2
        obtain ⟨k, i, Ap, cp, hk, hi, rfl, rfl, hI⟩ := hrel
        have HI : Hid (i = 7 - (k : Int)) := hi
        have e8 : wr.cell? ⟨C, 8, none⟩ = some (.slice A1 r c1) := hI.blk.cell 8
        by_cases hlt : k < 8
        · have i0' : 0 ≤ i := by omega
          have i7 : i ≤ 7 := by omega
          clear hi
          have hpad : Own wr w.heap.size 5 1 (.slice Ap (1 + z + k) cp) (1 + z + k) (vb ((128 :: List.replicate z 0) ++ (len8 m.length).take k)) := by
            have := hI.pad
            rwa [show ((128 :: List.replicate z (0 : Int)) ++ (len8 m.length).take k).length = 1 + z + k by simp [len8]; omega] at this
          go_wp2_with (at_builtin; refine wpList_append_mm _ rfl _ _ 22 rfl w.heap.size 5 i0 _ 1 1 Tryd.underlying22 hi0 hz0 hz1 hz2 rfl (by omega) (.slice Ap (1 + z + k) cp) (1 + z + k) _ rfl (hpad.alloc _) (some ⟨wr.heap.size, 0, none⟩) 1 1 [_] rfl (Rd.of_blk (Blk.new _ _ _) rfl rfl (Nat.le_refl _)) (by simp [Value.oneCell']) (by simp only [maxLen]; omega) (by omega) (by have := hI.chg.size; simp; omega) ?_; intro v2 w3 hown2 hg2 hat2)
          obtain ⟨A2, c2, hv2, _, _⟩ := hown2.form
          rw [len8_at HI.out hlt] at hown2
          have hN := hI.push (x := (len8 m.length).getD k 0) (v2 := v2) (by rw [show ((128 :: List.replicate z (0 : Int)) ++ (len8 m.length).take k).length + 1 = 1 + z + k + 1 by simp [len8]; omega]; exact hown2) hg2 hat2
          rw [List.append_assoc, ← len8_take hlt] at hN
          rw [hv2] at hN ⊢
          go_roundw
          case rel => exact ⟨k + 1, i - 1, A2, c2, by omega, by have := HI.out; omega, rfl, rfl, hN⟩
          case measure => simp [intOf]; omega
        · have hi8 : ¬ 0 ≤ i := by omega
          have hk8 : k = 8 := by omega
          have hpv : (128 :: List.replicate z (0 : Int)) ++ (len8 m.length).take k = padding m.length := by
            rw [hk8, ← HZ.out]
            rfl
          rw [hpv] at hI
          have hpl : (padding m.length).length = 1 + z + k := by
            rw [padding_len, HZ.out, hk8]
          have hDg : Dg wr C w.heap.size (.slice A1 r c1) m := ⟨by rw [HH.out]; exact hI.blk, by rw [← HR.out]; exact hI.own, hmb, b2, hI.a3⟩
          have hrd : Rd wr 1 Ap (1 + z + k) (vb (padding m.length)) := by
            have := hI.pad
            rw [hpl] at this
            exact this.rd
          have hAp : ∀ ad, Ap = some ad → 0 < 1 + z + k → ad.block ≠ C := by
            rintro ad rfl _ he
            exact hI.a1 (by rw [← he]; rfl)
          have hsl : m.length + (padding m.length).length < 1099511627776 := by rw [hpl]; omega
          have hbs := hI.chg.size
          have HPL : Hid ((padding m.length).length = 1 + z + k) := hpl
          clear hpl hpv hk8 hi HI e8
          go_wp2_with (go_at_call 59; refine (shawrite_any C w.heap.size Ap (1 + z + k) cp (padding m.length) m (.slice A1 r c1) wr hDg hbs hrd (padding_bytes _) hsl hAp).mono ?_; rintro e w4 ⟨rfl, bv4, hdg4, hc4, hb4⟩
                       have f0 := hdg4.blk.cell 0
                       have f1 := hdg4.blk.cell 1
                       have f2 := hdg4.blk.cell 2
                       have f3 := hdg4.blk.cell 3
                       have f4 := hdg4.blk.cell 4
                       have f5 := hdg4.blk.cell 5
                       have f6 := hdg4.blk.cell 6
                       have f7 := hdg4.blk.cell 7
                       have hok : H8ok (absorb IV (m ++ padding m.length) ((m ++ padding m.length).length / 64)) := absorb_ok IV_ok _ _
                       have HO : Hid (out (absorb IV (m ++ padding m.length) ((m ++ padding m.length).length / 64)) = sha m) := rfl
                       have hc5 : Chg [] w w4 := hI.chg.step hc4 (fun g hg => .inr (by
                         rcases List.mem_cons.1 hg with rfl | hg
                         · exact hI.new
                         · exact (hI.own.lt g (by simpa using hg)).1))
                       clear hdg4 hc4 hb4
                       generalize absorb IV (m ++ padding m.length) ((m ++ padding m.length).length / 64) = hf at f0 f1 f2 f3 f4 f5 f6 f7 hok HO
                       change w4.cell? ⟨C, 0, none⟩ = some (.int .u32 (hf 0)) at f0
                       change w4.cell? ⟨C, 1, none⟩ = some (.int .u32 (hf 1)) at f1
                       change w4.cell? ⟨C, 2, none⟩ = some (.int .u32 (hf 2)) at f2
                       change w4.cell? ⟨C, 3, none⟩ = some (.int .u32 (hf 3)) at f3
                       change w4.cell? ⟨C, 4, none⟩ = some (.int .u32 (hf 4)) at f4
                       change w4.cell? ⟨C, 5, none⟩ = some (.int .u32 (hf 5)) at f5
                       change w4.cell? ⟨C, 6, none⟩ = some (.int .u32 (hf 6)) at f6
                       change w4.cell? ⟨C, 7, none⟩ = some (.int .u32 (hf 7)) at f7)
          clear f0 f1 f2 f3 f4 f5 f6 f7 hI hDg hrd hAp
          go_loopw [66, 1] (fun iv rv wr => ∃ k : Nat, ∃ Av cv, k ≤ 8 ∧ iv = .int .i64 k ∧ rv = .slice Av (4 * k) cv ∧ Own wr w.heap.size 5 1 rv (4 * k) (vb ((out hf).take (4 * k))) ∧ Chg [] w wr) (fun iv _ _ => 8 - (intOf iv).toNat)
          case atStart => exact ⟨0, none, 0, by omega, rfl, rfl, Own.nil _ _ _ _, hc5⟩
          case round =>
            clear hc5
            obtain ⟨k, Av, cv, hk, rfl, rfl, hown, hch⟩ := hrel
            by_cases hlt : k < 8
            · have hidx := idx8 hf hlt
              obtain ⟨hl0, _⟩ := hok k hlt
              have hsz := hch.size
              go_wp2_with (at_builtin; refine wpList_append_mm _ rfl _ _ 22 rfl w.heap.size 5 i0 _ 1 1 Tryd.underlying22 hi0 hz0 hz1 hz2 rfl (by omega) (.slice Av (4 * k) cv) (4 * k) _ rfl (hown.alloc _) (some ⟨wr.heap.size, 0, none⟩) 4 4 [_, _, _, _] rfl (Rd.of_blk (Blk.new _ _ _) rfl rfl (Nat.le_refl _)) (by simp [Value.oneCell']) (by simp only [maxLen]; omega) (by omega) (by simp; omega) ?_; intro v2 w5 hown2 hg2 hat2)
              obtain ⟨A2, c2, hv2, _, _⟩ := hown2.form
              have hN : Own w5 w.heap.size 5 1 v2 (4 * (k + 1)) (vb ((out hf).take (4 * (k + 1)))) := by
                rw [out_take hlt, vb_append, word4_val hl0 (by assumption)]
                exact hown2
              have hC : Chg [] w w5 := (hch.alloc _).step (Chg.of_grown (S := (Value.slice Av (4 * k) cv).ownBlock.toList) hg2 (fun g hg => by simp [hg])) (fun g hg => .inr (by
                exact (hown.lt g (by simpa using hg)).1))
              rw [hv2] at hN ⊢
              go_roundw
              case rel => exact ⟨k + 1, A2, c2, by omega, by go_num, rfl, hN, hC⟩
              case measure => simp [intOf]; omega
            · have hge : ¬ (k : Int) < 8 := by omega
              have hN : Own wr w.heap.size 5 1 (.slice Av (4 * k) cv) 32 (vb (sha m)) := by
                have : k = 8 := by omega
                subst this
                rw [← HO.out]
                exact hown
              clear hown
              go_wp2_with fail
              go_ret
              exact ⟨_, rfl, hN, hch⟩
end Go.Proofs.YtcpeldnikloebaaDoor
