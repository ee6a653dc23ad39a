/- The walks of the library's reader: bytes.NewReader. -/
import Derived.Test.YtcpeldnikloebaaDoorTrV
set_option linter.unusedVariables false
set_option linter.unusedSimpArgs false
namespace Go.Proofs.YtcpeldnikloebaaDoor
open Go.RowKit Go.Mm Go.Sha Merk

set_option maxHeartbeats 1000000 in
theorem bnew_any (A : Option Addr) (n c : Nat) (w : World) :
    Calls Tryd.prog 13 #[.slice A n c] w fun e w' => ∃ R, e = .returned (pt R) ∧ w.heap.size ≤ R ∧ Blk w' R 59 #[.slice A n c, .int .i64 0, .int .i64 (-1)] ∧ Chg [] w w' := by
  go_enter Tryd.func13, Tryd.ntmps13
  go_wp2_with fail
  go_ret
  exact ⟨_, rfl, Nat.le_refl _, Blk.new _ _ _, (Chg.refl [] w).alloc _⟩

set_option maxHeartbeats 2000000 in
theorem bread_end (R : Nat) (A : Option Addr) (n c : Nat) (pr : Int) (bv ve : Value) (w : World) (hR : Blk w R 59 #[.slice A n c, .int .i64 n, .int .i64 pr]) (he : w.cell? ⟨0, 0, none⟩ = some ve) :
    Calls Tryd.prog 56 #[pt R, bv] w fun e w' => e = .returned (.tuple #[.int .i64 0, ve]) ∧ Chg [] w w' := by
  have r0 : w.cell? ⟨R, 0, none⟩ = some (.slice A n c) := hR.cell 0
  have r1 : w.cell? ⟨R, 1, none⟩ = some (.int .i64 n) := hR.cell 1
  clear hR
  go_enter Tryd.func56, Tryd.ntmps56
  go_wp2_with fail
  go_quiet (fail)
  go_wp2_with fail
  go_quiet (fail)
  go_wp2_with fail
  go_ret2
  exact ⟨rfl, ((Chg.refl [] _).drewN _).drewN _⟩

theorem step_copy_mm {P : Program} {w : World} {ops : Array Oper} {o : Oper} {a : Act} {K : Act → World → Prop} {Q : Exit → Act → World → Prop} {E : Prop} (hgd : o.guard = none) (d s : Operand) (dT sT : TypeId)
    (ho : o.op = .call { callee := .builtin .copy, args := #[d, s], argTypes := #[dT, sT] }) (elem : TypeId) (g off dLen dCap : Nat) (ad : Addr) (sLen sCap : Nat) (cur : Array Value) (t : TypeId) (cs : List Value)
    (hu : P.underlying dT = some (.slice elem)) (hs : (P.info? elem).map (·.size) = some 1) (hd : a.eval d = .slice (some ⟨g, off, none⟩) dLen dCap) (hsv : a.eval s = .slice (some ad) sLen sCap)
    (hg : Blk w g t cur) (hn : cs.length = Nat.min sLen dLen) (hsrc : ∀ j v, cs[j]? = some v → w.cell? (ad.add j) = some v) (hfit : off + cs.length ≤ cur.size) (h1 : ∀ v ∈ cs, v.oneCell' = true)
    (h : ∀ w', Blk w' g t (splice cur off cs) → Chg [g] w w' → K (a.put o.dst (goInt cs.length)) w') :
    if Region.wanted o (yielded ops a.tmps) = true then Oper.wp P o a w K Q else E := by
  have hw : Region.wanted o (yielded ops a.tmps) = true := by simp [Region.wanted, hgd]
  rw [if_pos hw]
  have hrun := run_copy_row (P := P) w dT sT o.type elem g off dLen dCap ad sLen sCap cur t cs hu hs hg hn hsrc hfit h1
  unfold Oper.wp execOp
  simp only [ho, resolve, invoke, builtin, Sem.run_bind, Sem.run_pure, Result.andThen_ok, List.map_toArray, List.map_cons, List.map_nil, hd, hsv, hrun]
  exact h _ (setRow_heap w g cur _ t _ hg) ⟨rfl, rfl, rfl, by simp, fun k _ hk => setRow_other w g k _ (by simpa using hk)⟩

set_option maxHeartbeats 4000000 in
theorem bread_more (R gB off m cm : Nat) (A : Option Addr) (n c i : Nat) (pr : Int) (xs : List Int) (cur : Array Value) (w : World) (hR : Blk w R 59 #[.slice A n c, .int .i64 i, .int .i64 pr]) (hB : Blk w gB 5 cur)
    (hne : R ≠ gB) (hx : Rd w 1 A n (vb xs)) (hAR : ∀ ad, A = some ad → ad.block ≠ R) (hi : i < n) (hnc : n ≤ c) (hn : n < 1000000) (hm : m < 1000000) (hfit : off + m ≤ cur.size) :
    Calls Tryd.prog 56 #[pt R, .slice (some ⟨gB, off, none⟩) m cm] w fun e w' => e = .returned (.tuple #[.int .i64 (min (n - i) m : Nat), .nilIface]) ∧ Blk w' gB 5 (splice cur off (vb ((xs.drop i).take (min (n - i) m)))) ∧
      Blk w' R 59 #[.slice A n c, .int .i64 (i + min (n - i) m : Nat), .int .i64 (-1)] ∧ Chg [R, gB] w w' := by
  have hxl : xs.length = n := by have := hx.1; rw [vb_len] at this; omega
  obtain ⟨ad, rfl, hadl, hadc⟩ := hx.2 (by omega)
  have hadR := hAR ad rfl
  have r0 : w.cell? ⟨R, 0, none⟩ = some (.slice (some ad) n c) := hR.cell 0
  have r1 : w.cell? ⟨R, 1, none⟩ = some (.int .i64 i) := hR.cell 1
  have r2 : w.cell? ⟨R, 2, none⟩ = some (.int .i64 pr) := hR.cell 2
  have z2 : w.frozen? ⟨R, 2, none⟩ = false := hR.frozen 2
  have hRl := hR.lt
  have hBl := hB.lt
  have HR : Hid (Blk w R 59 #[.slice (some ad) n c, .int .i64 i, .int .i64 pr]) := hR
  have HB : Hid (Blk w gB 5 cur) := hB
  have HX : Hid (∀ j u, (vb xs)[j]? = some u → w.cell? (ad.add j) = some u) := hadc
  clear hR hB hx hAR hadc
  have hle : ¬ (n : Int) ≤ (i : Int) := by omega
  have hi0i : (0 : Int) ≤ (i : Int) := by omega
  have hini : (i : Int) ≤ (n : Int) := by omega
  have hinc : (i : Int) ≤ (c : Int) := by omega
  have hci : ¬ c = i := by omega
  have hcI : ¬ (c : Int) = (i : Int) := by omega
  go_enter Tryd.func56, Tryd.ntmps56
  go_wp2_with fail
  go_quiet (fail)
  go_wp2_with fail
  have hc1 : Chg [R] w ((w.drewN nq).setCell ⟨R, 2, none⟩ (.int .i64 (-1))) := ((Chg.refl [R] w).drewN nq).setCell (p := ⟨R, 2, none⟩) (.inl (by simp)) _
  have hR1 : Blk ((w.drewN nq).setCell ⟨R, 2, none⟩ (.int .i64 (-1))) R 59 #[.slice (some ad) n c, .int .i64 i, .int .i64 (-1)] := (HR.out.drewN nq).set_ 2 _
  have hB1 : Blk ((w.drewN nq).setCell ⟨R, 2, none⟩ (.int .i64 (-1))) gB 5 cur := HB.out.chg hc1 (by simp; exact fun e => hne e.symm)
  have hX1 : ∀ j u, (vb xs)[j]? = some u → ((w.drewN nq).setCell ⟨R, 2, none⟩ (.int .i64 (-1))).cell? (ad.add j) = some u := fun j u hj => (hc1.cell (p := ad.add j) (by rw [block_add]; exact hadl) (by rw [block_add]; simpa using hadR)).trans (HX.out j u hj)
  clear r0 r1 r2 z2 HR HB HX
  generalize (w.drewN nq).setCell ⟨R, 2, none⟩ (.int .i64 (-1)) = w1 at *
  have r0 : w1.cell? ⟨R, 0, none⟩ = some (.slice (some ad) n c) := hR1.cell 0
  have r1 : w1.cell? ⟨R, 1, none⟩ = some (.int .i64 i) := hR1.cell 1
  have HR : Hid (Blk w1 R 59 #[.slice (some ad) n c, .int .i64 i, .int .i64 (-1)]) := hR1
  have HB : Hid (Blk w1 gB 5 cur) := hB1
  have HC1 : Hid (Chg [R] w w1) := hc1
  have HX : Hid (∀ j u, (vb xs)[j]? = some u → w1.cell? (ad.add j) = some u) := hX1
  have hklen : (vb ((xs.drop i).take (min (n - i) m))).length = min (n - i) m := by rw [vb_len]; simp; omega
  have HKL : Hid ((vb ((xs.drop i).take (min (n - i) m))).length = min (n - i) m) := hklen
  clear hR1 hB1 hc1 hX1 hklen
  go_region_held3 (fun w' => w'.cell? ⟨R, 0, none⟩ = some (.slice (some ad) n c) ∧ w'.cell? ⟨R, 1, none⟩ = some (.int .i64 i))
    (first
      | go_keep
      | exact ⟨f0, f1⟩)
    ((refine step_copy_mm (by rfl) _ _ _ _ (by rfl) 5 gB off m cm (ad.add i) (n - i) (c - i) cur 5 (vb ((xs.drop i).take (min (n - i) m))) Tryd.underlying22 (by kernel_rfl) (by rfl) (by simp [hci, Act.eval]) HB.out.drew (by rw [HKL.out]) (fun j u hj => by
        rw [add_add]
        rw [vb_take, vb_drop, List.getElem?_take] at hj
        split at hj
        · rw [List.getElem?_drop] at hj; exact HX.out _ u hj
        · cases hj) (by rw [HKL.out]; omega) (vb_one _) ?_; intro w9 hb9 hc9; rw [HKL.out]; have f0 : w9.cell? ⟨R, 0, none⟩ = some (.slice (some ad) n c) := (HR.out.drew.chg hc9 (by simpa using hne)).cell 0; have f1 : w9.cell? ⟨R, 1, none⟩ = some (.int .i64 i) := (HR.out.drew.chg hc9 (by simpa using hne)).cell 1))
  rename (World.cell? _ _ = _ ∧ _) => hHeld
  clear hHeld
  have hkk : min (n - i) m ≤ 1000000 := by omega
  clear HKL
  generalize hkd : min (n - i) m = kk at *
  have HKD : Hid (min (n - i) m = kk) := hkd
  clear hkd
  have hwk : IntKind.i64.wrap ((i : Int) + (kk : Int)) = (i : Int) + (kk : Int) := IntWalk.i64_in _ (by omega)
  have HB9 : Hid (Blk w9 gB 5 (splice cur off (vb ((xs.drop i).take kk)))) := hb9
  have HC9 : Hid (Chg [R] w w1) := HC1.out
  have hR9 : Blk w9 R 59 #[.slice (some ad) n c, .int .i64 i, .int .i64 (-1)] := HR.out.drew.chg hc9 (by simpa using hne)
  have z1 : w9.frozen? ⟨R, 1, none⟩ = false := hR9.frozen 1
  have HR9 : Hid (Blk w9 R 59 #[.slice (some ad) n c, .int .i64 i, .int .i64 (-1)]) := hR9
  have HCC : Hid (Chg [gB] w1.drew w9) := hc9
  clear hb9 hc9 hR9 r0 r1
  go_wp2_with fail
  go_ret2
  rw [HKD.out]
  have hset : Chg [R] w9 (w9.setCell ⟨R, 1, none⟩ (.int .i64 ((i : Int) + (kk : Int)))) := (Chg.refl [R] w9).setCell (p := ⟨R, 1, none⟩) (.inl (by simp)) _
  have hcc : Chg [gB] w1 w9 := ⟨HCC.out.os, HCC.out.tape, HCC.out.output, HCC.out.size, HCC.out.block⟩
  refine ⟨rfl, HB9.out.chg hset (by simp; exact fun e => hne e.symm), ?_, ((HC9.out.mono (by simp)).trans (hcc.mono (by simp))).trans (hset.mono (by simp))⟩
  have := HR9.out.set_ 1 (.int .i64 ((i : Int) + (kk : Int)))
  simpa using this
end Go.Proofs.YtcpeldnikloebaaDoor
