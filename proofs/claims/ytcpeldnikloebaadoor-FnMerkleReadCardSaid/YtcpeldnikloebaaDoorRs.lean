/- io.ReadAtLeast where the segment is short or nothing is left, the library's errors, and io.ReadFull. -/
import Derived.Test.YtcpeldnikloebaaDoorRe
import Derived.LaidEql
set_option linter.unusedVariables false
set_option linter.unusedSimpArgs false
namespace Go.Proofs.YtcpeldnikloebaaDoor
open Go.RowKit Go.Mm Go.Sha Merk

abbrev ev (a : Addr) : Value := .iface 79 (.pointer (some a))
theorem errs_comp : (Tryd.prog.info? 79).map (·.comparable) = some true := by kernel_rfl
theorem errs_size : (Tryd.prog.info? 81).map (·.size) = some 1 := by kernel_rfl
theorem eq_same (w : World) (a : Addr) : (binOp .eql 35 (ev a) (ev a)).run Tryd.prog w = .ok (.bool true) w := by
  obtain ⟨i, hi, hcmp⟩ := Option.map_eq_some_iff.1 errs_comp
  obtain ⟨j, hj, _⟩ := Option.map_eq_some_iff.1 errs_size
  exact run_eql_iface_ptr_same w a Tryd.underlying35 Tryd.underlying79 hi hcmp hj
theorem eq_nil_l (w : World) (a : Addr) : (binOp .eql 35 .nilIface (ev a)).run Tryd.prog w = .ok (.bool false) w := run_eql_iface_nil_left w _ _ Tryd.underlying35
theorem eq_nil_r (w : World) (a : Addr) : (binOp .eql 35 (ev a) .nilIface).run Tryd.prog w = .ok (.bool false) w := by kernel_rfl
theorem eq_nil (w : World) : (binOp .eql 35 .nilIface .nilIface).run Tryd.prog w = .ok (.bool true) w := by kernel_rfl

/-- the library's errors: EOF at a, ErrUnexpectedEOF at b -/
structure Er (w : World) (B : Nat) (a b : Addr) : Prop where
  c0 : w.cell? ⟨0, 0, none⟩ = some (ev a)
  c1 : w.cell? ⟨1, 0, none⟩ = some (ev b)
  ha : ∃ ca ta, w.heap[a.block]? = some (.cells ca ta (0, 0))
  hb : ∃ ca ta, w.heap[b.block]? = some (.cells ca ta (0, 0))
  ne : a ≠ b
  lt : 1 < B ∧ a.block < B ∧ b.block < B ∧ B ≤ w.heap.size
theorem Er.chg {w w' : World} {B : Nat} {a b : Addr} {S : List Nat} (h : Er w B a b) (hc : Chg S w w') (hs : ∀ k ∈ S, B ≤ k) : Er w' B a b := by
  obtain ⟨l1, l2, l3, l4⟩ := h.lt
  have hn : ∀ k, k < B → k ∉ S := fun k hk hm => by have := hs k hm; omega
  obtain ⟨ca, ta, ha⟩ := h.ha
  obtain ⟨cb, tb, hb⟩ := h.hb
  exact ⟨(hc.cell (p := ⟨0, 0, none⟩) (by show 0 < _; omega) (hn 0 (by omega))).trans h.c0, (hc.cell (p := ⟨1, 0, none⟩) (by show 1 < _; omega) (hn 1 (by omega))).trans h.c1,
    ⟨ca, ta, (hc.block a.block (by omega) (hn _ l2)).trans ha⟩, ⟨cb, tb, (hc.block b.block (by omega) (hn _ l3)).trans hb⟩, h.ne, l1, l2, l3, Nat.le_trans l4 hc.size⟩
theorem Er.drewN {w : World} {B : Nat} {a b : Addr} (h : Er w B a b) (n : Nat) : Er (w.drewN n) B a b := h.chg ((Chg.refl [] w).drewN n) (by simp)
theorem Er.drew {w : World} {B : Nat} {a b : Addr} (h : Er w B a b) : Er w.drew B a b := h.chg ((Chg.refl [] w).drew) (by simp)
theorem Er.other {w : World} {B : Nat} {a b : Addr} (h : Er w B a b) : (binOp .eql 35 (ev b) (ev a)).run Tryd.prog w = .ok (.bool false) w := by
  obtain ⟨i, hi, hcmp⟩ := Option.map_eq_some_iff.1 errs_comp
  obtain ⟨j, hj, hjs⟩ := Option.map_eq_some_iff.1 errs_size
  obtain ⟨ca, ta, ha⟩ := h.ha
  obtain ⟨cb, tb, hb⟩ := h.hb
  exact run_eql_iface_ptr_other w Tryd.underlying35 Tryd.underlying79 hi hcmp hj (by rw [hjs]; decide) h.ne.symm hb ha

set_option maxHeartbeats 4000000 in
/-- nothing is left -/
theorem ioatleast_none (R m cm B : Nat) (a b : Addr) (A A0 : Option Addr) (n c : Nat) (pr : Int) (w : World) (hR : Blk w R 59 #[.slice A n c, .int .i64 n, .int .i64 pr]) (he : Er w B a b)
    (hm : m < 1000000) (hm0 : 0 < m) (hmc : m ≤ cm) :
    Calls Tryd.prog 39 #[rv R, .slice A0 m cm, .int .i64 m] w fun e w' => e = .returned (.tuple #[.int .i64 0, ev a]) ∧ Chg [] w w' := by
  have hm1 := m_read R
  have hm2 := na_read R
  have hnn := eq_nil
  have hn1 := fun w => eq_nil_r w a
  have h0m : (0 : Int) < m := by omega
  have hm0' : ¬ (m : Int) ≤ 0 := by omega
  have hcr := fun bv => bread_end R A n c pr bv (ev a) w.drew hR he.drew.c0
  go_enter Tryd.func39, Tryd.ntmps39
  go_wp2_with fail
  go_loopg [6, 7] 1 (fun gk v6 v7 wr => (gk = 1 ∧ v6 = .int .i64 0 ∧ v7 = .nilIface ∧ wr = w) ∨ (gk = 0 ∧ v6 = .int .i64 0 ∧ v7 = ev a ∧ Chg [] w wr))
  case atStart => exact .inl ⟨rfl, rfl, rfl, rfl⟩
  case round =>
    rcases hrel with ⟨rfl, rfl, rfl, rfl⟩ | ⟨rfl, rfl, rfl, hc⟩
    · go_wp2_with fail
      go_region_held3 (fun _ => True) (trivial) ((first | (go_at_call 56; refine (hcr _).mono ?_; rintro e w7 ⟨rfl, hc7⟩)))
      go_wp2_with fail
      go_roundg 0
      case measure => omega
      case rel => exact .inr ⟨rfl, rfl, rfl, ⟨hc7.os, hc7.tape, hc7.output, hc7.size, hc7.block⟩⟩
    · go_wp2_with fail
      go_ret2
      exact ⟨rfl, hc⟩

set_option maxHeartbeats 4000000 in
/-- a short segment lies ahead -/
theorem ioatleast_short (R gB m cm k B : Nat) (a b : Addr) (A : Option Addr) (n c i : Nat) (pr : Int) (xs : List Int) (cur : Array Value) (w : World) (hR : Blk w R 59 #[.slice A n c, .int .i64 i, .int .i64 pr]) (hB : Blk w gB 5 cur)
    (he : Er w B a b) (hRB : B ≤ R) (hgB : B ≤ gB)
    (hne : R ≠ gB) (hx : Rd w 1 A n (vb xs)) (hAR : ∀ ad, A = some ad → ad.block ≠ R) (hi : i < n) (hnc : n ≤ c) (hn : n < 1000000) (hm : m < 1000000) (hmc : m ≤ cm) (hfit : m ≤ cur.size) (hk : k = n - i) (hw : k < m) :
    Calls Tryd.prog 39 #[rv R, .slice (some ⟨gB, 0, none⟩) m cm, .int .i64 m] w fun e w' => e = .returned (.tuple #[.int .i64 k, ev b]) ∧ Blk w' gB 5 (splice cur 0 (vb ((xs.drop i).take k))) ∧
      Blk w' R 59 #[.slice A n c, .int .i64 n, .int .i64 (-1)] ∧ Chg [R, gB] w w' := by
  have hm1 := m_read R
  have hm2 := na_read R
  have hcr := bread_more R gB 0 m cm A n c i pr xs cur w.drew hR hB hne hx hAR hi hnc hn hm (by omega)
  rw [Nat.min_eq_left (show n - i ≤ m by omega), ← hk, show i + k = n by omega] at hcr
  have hnn := eq_nil
  have hn1 := fun w => eq_nil_r w a
  have hn2 := fun w => eq_same w a
  have h0k : (0 : Int) < k := by omega
  have hck : ¬ cm = k := by omega
  have hckI : ¬ (cm : Int) = (k : Int) := by omega
  have hmk : ¬ (m : Int) ≤ (k : Int) := by omega
  have hkm : (k : Int) < m := by omega
  have hk0 : ¬ (k : Int) < 0 := by omega
  have hk0i : (0 : Int) ≤ (k : Int) := by omega
  have hkmi : (k : Int) ≤ (m : Int) := by omega
  have h0m : (0 : Int) < m := by omega
  have HHk : Hid (k = n - i) := hk
  clear hk
  go_enter Tryd.func39, Tryd.ntmps39
  go_wp2_with fail
  go_loopg [6, 7] 2 (fun gk v6 v7 wr => (gk = 2 ∧ v6 = .int .i64 0 ∧ v7 = .nilIface ∧ wr = w) ∨
    (gk = 1 ∧ v6 = .int .i64 k ∧ v7 = .nilIface ∧ Blk wr gB 5 (splice cur 0 (vb ((xs.drop i).take k))) ∧ Blk wr R 59 #[.slice A n c, .int .i64 n, .int .i64 (-1)] ∧ Chg [R, gB] w wr) ∨
    (gk = 0 ∧ v6 = .int .i64 k ∧ v7 = ev a ∧ Blk wr gB 5 (splice cur 0 (vb ((xs.drop i).take k))) ∧ Blk wr R 59 #[.slice A n c, .int .i64 n, .int .i64 (-1)] ∧ Chg [R, gB] w wr))
  case atStart => exact .inl ⟨rfl, rfl, rfl, rfl⟩
  case round =>
    rcases hrel with ⟨rfl, rfl, rfl, rfl⟩ | ⟨rfl, rfl, rfl, hb, hr, hc⟩ | ⟨rfl, rfl, rfl, hb, hr, hc⟩
    · go_wp2_with fail
      go_region_held3 (fun _ => True) (trivial) ((first | (go_at_call 56; refine hcr.mono ?_; rintro e w7 ⟨rfl, hb7, hr7, hc7⟩)))
      go_wp2_with fail
      go_roundg 1
      case measure => omega
      case rel => exact .inr (.inl ⟨rfl, rfl, rfl, hb7, hr7, ⟨hc7.os, hc7.tape, hc7.output, hc7.size, hc7.block⟩⟩)
    · have he1 : Er wr B a b := he.chg hc (by simp [hRB, hgB])
      have HB : Hid (Blk wr gB 5 (splice cur 0 (vb ((xs.drop i).take k)))) := hb
      clear hb
      go_wp2_with fail
      have hce := fun bv => bread_end R A n c (-1) bv (ev a) wr.drew hr he1.drew.c0
      go_region_held3 (fun _ => True) (trivial) ((first | (go_at_call 56; refine (hce _).mono ?_; rintro e w7 ⟨rfl, hc7⟩)))
      go_wp2_with fail
      go_roundg 0
      case measure => omega
      case rel => 
        have hc8 : Chg [] wr w7 := ⟨hc7.os, hc7.tape, hc7.output, hc7.size, hc7.block⟩
        exact .inr (.inr ⟨rfl, by simp, rfl, HB.out.chg hc8 (by simp), hr.chg hc8 (by simp), hc.trans (hc8.mono (by simp))⟩)
    · have he1 : Er wr B a b := he.chg hc (by simp [hRB, hgB])
      have c0 := he1.c0
      have c1 := he1.c1
      have HB : Hid (Blk wr gB 5 (splice cur 0 (vb ((xs.drop i).take k)))) := hb
      clear hb
      go_wp2_with fail
      go_ret2
      exact ⟨rfl, HB.out, hr, hc⟩

set_option maxHeartbeats 2000000 in
theorem iofull_by (A0 : Option Addr) (m cm R : Nat) (nv e1 : Value) (w : World) (K : World → Prop) (h : Calls Tryd.prog 39 #[rv R, .slice A0 m cm, .int .i64 m] w fun e w' => e = .returned (.tuple #[nv, e1]) ∧ K w') :
    Calls Tryd.prog 37 #[rv R, .slice A0 m cm] w fun e w' => e = .returned (.tuple #[nv, e1]) ∧ K w' := by
  go_enter Tryd.func37, Tryd.ntmps37
  go_wp2_with (first | (go_at_call 39; refine h.mono ?_; rintro e w' ⟨rfl, hk⟩))
  go_ret2
  exact ⟨rfl, hk⟩
end Go.Proofs.YtcpeldnikloebaaDoor
