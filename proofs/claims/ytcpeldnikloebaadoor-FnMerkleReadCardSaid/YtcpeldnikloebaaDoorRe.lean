/- The walks of io.ReadAtLeast, io.ReadFull on a reader of bytes. -/
import Derived.Test.YtcpeldnikloebaaDoorRd
set_option linter.unusedVariables false
set_option linter.unusedSimpArgs false
namespace Go.Proofs.YtcpeldnikloebaaDoor
open Go.RowKit Go.Mm Go.Sha Merk

theorem m_read (R : Nat) (w : World) : (method 203 38 (pt R) "Read").run Tryd.prog w = .ok (56, pt R) w := by kernel_rfl
theorem na_read (R : Nat) (w : World) : (nilAhead 203 38 (pt R) "Read").run Tryd.prog w = .ok (some false) w := by kernel_rfl
abbrev rv (R : Nat) : Value := .iface 38 (pt R)

set_option maxHeartbeats 4000000 in
/-- a whole segment lies ahead -/
theorem iofull_whole (R gB m cm : Nat) (A : Option Addr) (n c i : Nat) (pr : Int) (xs : List Int) (cur : Array Value) (w : World) (hR : Blk w R 59 #[.slice A n c, .int .i64 i, .int .i64 pr]) (hB : Blk w gB 5 cur)
    (hne : R ≠ gB) (hx : Rd w 1 A n (vb xs)) (hAR : ∀ ad, A = some ad → ad.block ≠ R) (hi : i < n) (hnc : n ≤ c) (hn : n < 1000000) (hm : m < 1000000) (hm0 : 0 < m) (hmc : m ≤ cm) (hfit : m ≤ cur.size) (hw : m ≤ n - i) :
    Calls Tryd.prog 39 #[rv R, .slice (some ⟨gB, 0, none⟩) m cm, .int .i64 m] w fun e w' => e = .returned (.tuple #[.int .i64 m, .nilIface]) ∧ Blk w' gB 5 (splice cur 0 (vb ((xs.drop i).take m))) ∧
      Blk w' R 59 #[.slice A n c, .int .i64 (i + m : Nat), .int .i64 (-1)] ∧ Chg [R, gB] w w' := by
  have hm1 := m_read R
  have hm2 := na_read R
  have hcr := bread_more R gB 0 m cm A n c i pr xs cur w.drew hR hB hne hx hAR hi hnc hn hm (by omega)
  rw [Nat.min_eq_right hw] at hcr
  have hnn : ∀ w, (binOp .eql 35 .nilIface .nilIface).run Tryd.prog w = .ok (.bool true) w := fun _ => by kernel_rfl
  go_enter Tryd.func39, Tryd.ntmps39
  go_wp2_with fail
  go_loopg [6, 7] 1 (fun gk v6 v7 wr => (gk = 1 ∧ v6 = .int .i64 0 ∧ v7 = .nilIface ∧ wr = w) ∨ (gk = 0 ∧ v6 = .int .i64 m ∧ v7 = .nilIface ∧ Blk wr gB 5 (splice cur 0 (vb ((xs.drop i).take m))) ∧ Blk wr R 59 #[.slice A n c, .int .i64 (i + m : Nat), .int .i64 (-1)] ∧ Chg [R, gB] w wr))
  case atStart => exact .inl ⟨rfl, rfl, rfl, rfl⟩
  case round =>
    rcases hrel with ⟨rfl, rfl, rfl, rfl⟩ | ⟨rfl, rfl, rfl, hb, hr, hc⟩
    · have h0m : (0 : Int) < m := by omega
      go_wp2_with fail
      go_region_held3 (fun _ => True) (trivial) ((first | (go_at_call 56; refine hcr.mono ?_; rintro e w7 ⟨rfl, hb7, hr7, hc7⟩)))
      go_wp2_with fail
      go_roundg 0
      case measure => omega
      case rel => exact .inr ⟨rfl, rfl, rfl, hb7, hr7, ⟨hc7.os, hc7.tape, hc7.output, hc7.size, hc7.block⟩⟩
    · go_wp2_with fail
      go_ret2
      exact ⟨rfl, hb, hr, hc⟩
end Go.Proofs.YtcpeldnikloebaaDoor
