/- The row of laws.FnMerkleRead: true for every input, the input reads as it did. -/
import Derived.Test.YtcpeldnikloebaaDoorRows
import Derived.Test.YtcpeldnikloebaaDoorLaw
import Derived.ProofKit
import Derived.ChangeSame
import Derived.ChangeVars
import Derived.ChangeSlices
import Derived.JoinedOf
import Derived.RowKitTokens
import Derived.LaidLaws
import Derived.LaidMore
import Derived.OpenShut
import Derived.WideKeyArgs
import Derived.MakeChecks
import Derived.Stop.ErrReads
set_option linter.unusedVariables false
set_option linter.unusedSimpArgs false
namespace Go.Proofs.YtcpeldnikloebaaDoor
open Go.ChangeShapes Go.WideShapes Go.RowKit Go.Mm Go.Sha

theorem Tryd.own : ownKnob Tryd.prog.godebug = none := by kernel_rfl
theorem g_eof : Tryd.prog.globalNamed "io.EOF" = some 0 := by kernel_rfl
theorem g_une : Tryd.prog.globalNamed "io.ErrUnexpectedEOF" = some 1 := by kernel_rfl
theorem g_sho : Tryd.prog.globalNamed "io.ErrShortBuffer" = some 2 := by kernel_rfl
theorem gt0 : (Tryd.prog.globals[0]?).map (·.type) = some 35 := by kernel_rfl
theorem gt1 : (Tryd.prog.globals[1]?).map (·.type) = some 35 := by kernel_rfl
theorem gt2 : (Tryd.prog.globals[2]?).map (·.type) = some 35 := by kernel_rfl
theorem cellsS : Tryd.prog.cellsOf 81 = 1 := by kernel_rfl
theorem cellsStr : Tryd.prog.cellsOf 9 = 1 := by kernel_rfl
theorem cells8 : Tryd.prog.cellsOf 5 = 1 := by kernel_rfl
theorem star : "*" ++ "errors.errorString" = "*errors.errorString" := by decide
theorem rowE (u : TypeId) (h : Tryd.prog.typeName? 3 u = some "*errors.errorString") : u = 79 :=
  typeName_ptr_named (nm := "errors.errorString") (by rw [star]; kernel_rfl) (by kernel_rfl) (by decide) u (by rw [star]; exact h)

abbrev laid3 : List (String × DataW Unit) := [("io.ErrShortBuffer", Rows.laid_io_ErrShortBuffer), ("io.EOF", Rows.laid_io_EOF), ("io.ErrUnexpectedEOF", Rows.laid_io_ErrUnexpectedEOF)]

/-- what the condition gives the walks: the two errors' cells -/
theorem errs_of_laid {W : World} (h : laidMetH Tryd.prog laid3 W) : ∃ a b, Er W W.heap.size a b := by
  rw [MakeChecks.laidMetH_plain _ _ _ (by kernel_rfl)] at h
  obtain ⟨ps, ⟨g0, t0, cs0, f0, p0, q0, hg0, ht0, hv0, hd0, ⟨g1, t1, cs1, f1, p1, q1, hg1, ht1, hv1, hd1, ⟨g2, t2, cs2, f2, p2, q2, hg2, ht2, hv2, hd2, hq2, e2⟩, e1⟩, e0⟩, hnd, hrows⟩ := h
  obtain rfl := Option.some.inj (g_sho.symm.trans hg0)
  obtain rfl := Option.some.inj (g_eof.symm.trans hg1)
  obtain rfl := Option.some.inj (g_une.symm.trans hg2)
  obtain rfl := Option.some.inj (gt2.symm.trans ht0)
  obtain rfl := Option.some.inj (gt0.symm.trans ht1)
  obtain rfl := Option.some.inj (gt1.symm.trans ht2)
  have hq2' : q2 = [] := hq2
  subst hq2'
  subst e2
  subst e1
  subst e0
  obtain ⟨l1⟩ := cs1
  obtain ⟨l2⟩ := cs2
  have ok1 : ∀ u v, l1 = [.iface u v] → Value.okWide Tryd.prog W .any 0 u v := fun u v e => by
    subst e
    exact (hrows 0 0 (by simp [MemPlace.row])).2 u v (by simpa using World.var?_cell hg1 hv1 0)
  have ok2 : ∀ u v, l2 = [.iface u v] → Value.okWide Tryd.prog W .any 0 u v := fun u v e => by
    subst e
    exact (hrows 1 0 (by simp [MemPlace.row])).2 u v (by simpa using World.var?_cell hg2 hv2 0)
  obtain ⟨a1, s1, rfl, hc1, hs1, hz1, rfl⟩ := errorString_of_trod Tryd.underlying35 rowE Tryd.underlying79 Tryd.underlying81 rfl rfl Tryd.underlying9 cellsS cellsStr hd1 ok1
  obtain ⟨a2, s2, rfl, hc2, hs2, hz2, rfl⟩ := errorString_of_trod Tryd.underlying35 rowE Tryd.underlying79 Tryd.underlying81 rfl rfl Tryd.underlying9 cellsS cellsStr hd2 ok2
  obtain ⟨c1, t1, hb1⟩ := (hrows a1.block a1.off (by simp [MemPlace.row])).1
  obtain ⟨c2, t2, hb2⟩ := (hrows a2.block a2.off (by simp [MemPlace.row])).1
  have k0 : W.cell? ⟨0, 0, none⟩ = some (ev a1) := by simpa using World.var?_cell hg1 hv1 0
  have k1 : W.cell? ⟨1, 0, none⟩ = some (ev a2) := by simpa using World.var?_cell hg2 hv2 0
  have hlt : ∀ p v, W.cell? p = some v → p.block < W.heap.size := fun p v h => World.block_lt_of_cell? W p h
  refine ⟨a1, a2, k0, k1, ⟨_, _, hb1⟩, ⟨_, _, hb2⟩, ?_, hlt _ _ k1, hlt _ _ hc1, hlt _ _ hc2, Nat.le_refl _⟩
  rintro rfl
  rw [hc1] at hc2
  injection hc2 with hc2
  injection hc2 with hc2
  subst hc2
  rw [hs1] at hs2
  exact absurd hs2 (by decide)

abbrev sShort : ByteArray := { data := #[115, 104, 111, 114, 116, 32, 98, 117, 102, 102, 101, 114] }
abbrev sEof : ByteArray := { data := #[69, 79, 70] }
abbrev sUne : ByteArray := { data := #[117, 110, 101, 120, 112, 101, 99, 116, 101, 100, 32, 69, 79, 70] }
noncomputable def low : Nat := (World.holding Tryd.prog default ⟨#[], #[], []⟩).heap.size
noncomputable def laidWorld (os : Os) : World :=
  let w0 := World.holding Tryd.prog os ⟨#[.cells #[.string sShort] 81, .cells #[.string sEof] 81, .cells #[.string sUne] 81], #[], []⟩
  { w0 with heap := ((w0.heap.modify 2 fun
      | .cells _ t frozen => .cells #[.iface 79 (.pointer (some ⟨low, 0, none⟩))] t frozen
      | o => o).modify 0 fun
      | .cells _ t frozen => .cells #[.iface 79 (.pointer (some ⟨low + 1, 0, none⟩))] t frozen
      | o => o).modify 1 fun
      | .cells _ t frozen => .cells #[.iface 79 (.pointer (some ⟨low + 2, 0, none⟩))] t frozen
      | o => o }
theorem laidWorld_met (os : Os) (args : Array Value) : laidMetH Tryd.prog laid3 ((laidWorld os).forCall (fun _ _ => 0) ⟨#[], args, []⟩).memory := by
  rw [MakeChecks.laidMetH_plain _ _ _ (by kernel_rfl)]
  exact laidMet_of_run (ps := [.cell 2 0, .cell low 0, .cell 0 0, .cell (low + 1) 0, .cell 1 0, .cell (low + 2) 0]) 8 (by kernel_rfl) (by kernel_rfl) (by kernel_rfl)

/-- bytes that came in -/
theorem open_data {H : Type} {enc : TypeId × Value → H} {W : World} {base : Nat} {v1 : Value} {d1 : DataW H} {p1 : List MemPlace} (hval : Value.okWide Tryd.prog W .any base 22 v1) (h1 : DataW.Trod enc Tryd.prog W 0 (fun _ => true) true 22 v1 d1 p1) :
    ∃ A n c xs, v1 = .slice A n c ∧ xs.length = n ∧ n ≤ c ∧ Bs W [] v1 xs ∧ ∀ x ∈ p1, ∃ xb xo, x = .cell xb xo := by
  obtain ⟨a1, len, cap, rfl⟩ := okWide_slice Tryd.underlying22 hval
  obtain ⟨fuel, hf⟩ := h1
  rcases open_ints Tryd.underlying22 Tryd.underlying5 cells8 hf with ⟨hcs, hx⟩ | ⟨a, len', cap', zs, hcs, _, hl, hm, hz, hx, hcell, hwz⟩
  · simp [Value.cells] at hcs
    obtain ⟨rfl, rfl, rfl⟩ := hcs
    simp only [Prod.mk.injEq] at hx
    obtain ⟨rfl, rfl⟩ := hx
    exact ⟨none, 0, 0, [], rfl, rfl, Nat.le_refl _, ⟨none, 0, rfl, Rd.nil _ _ _, (by intro x hx; cases hx), by simp⟩, fun x hx => (by cases hx)⟩
  · simp [Value.cells] at hcs
    obtain ⟨rfl, rfl, rfl⟩ := hcs
    simp only [if_true] at hz
    have hlen : (zs.take len).length = len := by simp; omega
    simp only [Prod.mk.injEq] at hx
    obtain ⟨rfl, rfl⟩ := hx
    refine ⟨some a, len, cap, zs.take len, rfl, hlen, hl, ⟨some a, cap, by rw [hlen], ?_, ?_, by simp⟩, fun x hx => ?_⟩
    · rw [hlen]
      refine ⟨by rw [vb_len, Nat.mul_one]; exact hlen, fun hn => ⟨a, rfl, ?_, fun j u hj => ?_⟩⟩
      · have := World.block_lt_of_cell? W _ (hcell 0 (by omega))
        rwa [Mm.block_add] at this
      · have hjl : j < len := by
          rcases Nat.lt_or_ge j len with h | h
          · exact h
          · rw [List.getElem?_eq_none (by rw [vb_len, hlen]; exact h)] at hj; cases hj
        rw [hcell j (by omega)]
        rw [vb, List.getElem?_map, List.getElem?_take, if_pos hjl] at hj
        rw [List.getElem?_eq_getElem (by omega)] at hj
        rw [← hj, List.getD_eq_getElem?_getD, List.getElem?_eq_getElem (by omega)]
        rfl
    · intro x hx
      have := bounds_u8 (hwz x (List.mem_of_mem_take hx))
      constructor <;> omega
    · simp only [MemPlace.row, List.mem_map] at hx
      obtain ⟨i, _, rfl⟩ := hx
      exact ⟨_, _, rfl⟩

set_option maxRecDepth 100000 in
theorem lifted (os : Os) (started : os.Started) (H : Type) (enc : TypeId × Value → H) :
    ReturnsInHanded {} Tryd.checked os 3 .any (fun w args => (Rows.fnMerkleReadSpec.pre enc Tryd.prog Tryd.f3 [] false w args ∧ laidMetH Tryd.prog laid3 w) ∧ sizedMet enc Tryd.prog Tryd.f3 (OpenSpec.ofChange Rows.fnMerkleReadSpec) false w args)
      (Rows.fnMerkleReadSpec.post enc Tryd.prog Tryd.f3 false true false false) := by
  refine returnsInHanded_of_change_and (C := Tryd.checked) (X := fun w _ => laidMetH Tryd.prog laid3 w) (fun _ _ _ hh h => h.of_heap hh) Tryd.own started (by kernel_rfl) Tryd.func3
    (ChangeSpec.witness_at (enc := enc) (C := Tryd.checked) (os := os) (X := fun w _ => laidMetH Tryd.prog laid3 w) false (laidWorld os) #[.slice none 0 0, .int .u8 0, .int .u8 0] 8 rfl (by kernel_rfl) (by kernel_rfl) (by kernel_rfl) (by kernel_rfl) (by kernel_rfl) (laidWorld_met os _)) ?_
  intro W base args ds gs before hval0 hW _ _ hL _
  have hval : ∀ (j : Nat) t v, Tryd.f3.params[j]? = some t → args[j]? = some v → Value.okWide Tryd.prog W .any base t v := hval0
  have hW' := hW
  obtain ⟨p, q, hA0, hV, rfl, hfz, hnd⟩ := hW
  have hA : DataW.TrodAll enc Tryd.prog W 0 (fun _ => true) true Tryd.f3.params.toList args.toList ds p := hA0
  rw [Tryd.params3] at hA hval
  obtain ⟨v0, v1, v2, d0, d1, d2, p0, p1, p2, rfl, rfl, rfl, h0, h1, h2⟩ := trodAll_three hA
  obtain ⟨rfl, rfl⟩ := trodVars_none hV
  obtain ⟨n1, rfl, rfl, rfl, hw1⟩ := open_int Tryd.underlying5 (hval 1 5 v1 rfl rfl) h1
  obtain ⟨n2, rfl, rfl, rfl, hw2⟩ := open_int Tryd.underlying5 (hval 2 5 v2 rfl rfl) h2
  obtain ⟨A, n, c, xs, rfl, hxl, hnc, hbs, hpc⟩ := open_data (hval 0 22 v0 rfl rfl) h0
  obtain ⟨a, b, he⟩ := errs_of_laid hL
  have b1 := bounds_u8 hw1
  have b2 := bounds_u8 hw2
  obtain ⟨m1, rfl⟩ : ∃ m : Nat, n1 = m := ⟨n1.toNat, by omega⟩
  obtain ⟨m2, rfl⟩ : ∃ m : Nat, n2 = m := ⟨n2.toNat, by omega⟩
  refine (law_any n c m1 m2 A xs a b W he hbs hxl hnc (by omega) (by omega)).mono fun e W' ⟨hee, hc⟩ => ?_
  subst hee
  have e1 : Rows.fnMerkleReadSpec.fn H ([d0, .lit (.int .u8 m1), .lit (.int .u8 m2)] ++ []) = { results := [.lit (.bool true)], args := [d0, .lit (.int .u8 m1), .lit (.int .u8 m2)] } := by simp [Rows.fnMerkleReadSpec]
  have hin : ∀ x ∈ p0, x ∈ p0 ++ [] ++ [] ++ [] := fun x hx => by simpa using hx
  have harg := WideElems.Trod_stays (P := Tryd.prog) (W' := W') (sp' := fun b => decide (b < W.heap.size)) (by kernel_rfl) (by kernel_rfl) (of_decide_eq_true (by kernel_rfl)) h0
    (fun x hx => by obtain ⟨xb, xo, rfl⟩ := hpc x hx; exact hc.cell (p := ⟨xb, xo, none⟩) (hW'.lt _ (hin _ hx)) (by simp)) (fun x hx => by simpa using hW'.lt _ (hin _ hx))
  refine ⟨_, rfl, _, _, _, [], p0 ++ ([] ++ []), [], hW', ?_, ?_, ?_, hc.below.frame _, fun h => by cases h⟩
  · rw [e1]; exact trodAll_mk1 (shut_bool Tryd.underlying4 true)
  · rw [e1]; exact trodAll_mk3 harg (shut_int Tryd.underlying5 hw1) (shut_int Tryd.underlying5 hw2)
  · rw [e1]; rfl

theorem fnMerkleRead_row : Rows.FnMerkleReadSaid :=
  OpenClaim.holds_of_wide 3 Tryd.f3 rfl rfl rfl rfl rfl rfl rfl ⟨rfl, rfl, rfl, rfl, rfl⟩ rfl rfl rfl rfl rfl (by kernel_rfl) Tryd.func3 (by kernel_rfl)
    (of_decide_eq_true (by kernel_rfl)) (by unfold Func.isWrapper; first | (rw [if_pos (by decide +kernel)]; kernel_rfl) | (rw [if_neg (by decide +kernel)]; exact ⟨rfl, rfl⟩))
    (fun os started H enc _ => lifted os started H enc)
#print axioms fnMerkleRead_row
end Go.Proofs.YtcpeldnikloebaaDoor
