/- impl.copies: a list of slices, copied. -/
import Derived.Test.YtcpeldnikloebaaDoorTrV
set_option linter.unusedVariables false
set_option linter.unusedSimpArgs false
namespace Go.Proofs.YtcpeldnikloebaaDoor
open Go.RowKit Go.Mm Go.Sha Merk

theorem info_u8c : (Tryd.prog.info? 5).map (fun i => (i.zero, i.size, i.bytes)) = some (some (.int .u8 0), 1, 1) := by kernel_rfl
theorem take_getD {l : List (List Int)} {j : Nat} (h : j < l.length) : l.take (j + 1) = l.take j ++ [l.getD j []] := by
  rw [List.take_add_one, List.getD_eq_getElem?_getD, List.getElem?_eq_getElem h]; rfl

set_option maxHeartbeats 8000000 in
theorem copies_any (S : List Nat) (g o L cap : Nat) (vs : List Value) (ls : List (List Int)) (w : World) (hg : g < w.heap.size) (hcell : ∀ j, j < L → w.cell? ⟨g, o + j, none⟩ = some (vs.getD j default)) (hbs : Bss w [] vs ls) (hL : ls.length = L) (hL2 : L ≤ 20)
    (hlen : ∀ j, j < L → (ls.getD j []).length ≤ 1000) (hLc : L ≤ cap) (hS : ∀ k ∈ S, k < w.heap.size) :
    Calls Tryd.prog 16 #[.slice (some ⟨g, o, none⟩) L cap] w fun e w' => ∃ v' vs', e = .returned v' ∧ Own w' w.heap.size 22 1 v' L vs' ∧ Bss w' S vs' ls ∧ Chg [] w w' := by
  obtain ⟨i0, hi0, hz0, hz1, hz2⟩ := info_parts info_u8s
  obtain ⟨i1, hi1, hy0, hy1, hy2⟩ := info_parts info_u8c
  have HCE : Hid (∀ wr : World, Chg [] w wr → ∀ j, j < L → wr.cell? ⟨g, o + j, none⟩ = some (vs.getD j default)) := fun wr hc j hj => (hc.cell (p := ⟨g, o + j, none⟩) hg (by simp)).trans (hcell j hj)
  have HBE : Hid (∀ wr : World, Chg [] w wr → ∀ j, j < L → Bs wr [] (vs.getD j default) (ls.getD j [])) := fun wr hc j hj => (hbs.2 j (by rw [hL]; exact hj)).chg hc (by simp)
  have HLEN : Hid (∀ j, j < L → (ls.getD j []).length ≤ 1000) := hlen
  have HLE : Hid (ls.length = L) := hL
  clear hcell hbs hlen hL
  go_enter Tryd.func16, Tryd.ntmps16
  go_wp2_with fail
  go_loopg [3, 8] L (fun gk v3 v8 wr => ∃ (i : Nat) (vs' : List Value), gk = L - i ∧ i ≤ L ∧ v8 = .int .i64 i ∧ Own wr w.heap.size 22 1 v3 i vs' ∧ Bss wr (v3.ownBlock.toList ++ S) vs' (ls.take i) ∧ Chg [] w wr)
  case atStart => exact ⟨0, [], rfl, Nat.zero_le _, rfl, Own.nil _ _ _ _, ⟨rfl, fun k hk => by simp at hk⟩, Chg.refl _ _⟩
  case round =>
    obtain ⟨i, vs', rfl, hiL, rfl, hown, hb, hch⟩ := hrel
    obtain ⟨Ao, co, rfl, hco, hcm⟩ := hown.form
    have HO : Hid (Own wr w.heap.size 22 1 (.slice Ao i co) i vs') := hown
    have HB : Hid (Bss wr ((Value.slice Ao i co).ownBlock.toList ++ S) vs' (ls.take i)) := hb
    clear hown hb
    rcases Nat.lt_or_ge i L with hlt | hge
    · have hltI : (i : Int) < (L : Int) := by omega
      have hi0' : (0 : Int) ≤ (i : Int) := by omega
      have hwi : IntKind.i64.wrap ((i : Int) + 1) = ((i + 1 : Nat) : Int) := by rw [IntWalk.i64_in _ (by omega)]; omega
      have hci := HCE.out wr hch i hlt
      have hbi := HBE.out wr hch i hlt
      have hln := HLEN.out i hlt
      have htk := take_getD (l := ls) (j := i) (by rw [HLE.out]; exact hlt)
      have HTK : Hid _ := htk
      clear htk
      generalize ls.getD i [] = li at *
      obtain ⟨A3, c3, e3, hrd, hby, _⟩ := hbi
      generalize vs.getD i default = vi at *
      subst e3
      have hsz := hch.size
      have HRD : Hid (Rd wr 1 A3 li.length (vb li)) := hrd
      clear hrd
      have HOF : Hid (∀ w2 o, (wr.alloc (.cells #[] 5)).grownBy w2 (some wr.heap.size) → Own (w2.alloc o) w.heap.size 22 1 (.slice Ao i co) i vs') := fun w2 o hg2 =>
        ((HO.out.alloc _).chg (S := [wr.heap.size]) (Chg.of_grown hg2 (by intro k hk; injection hk with hk; simp [hk])) (fun g hg => by have := (HO.out.lt g hg).2; simp; omega)).alloc _
      go_wp2_with (first
        | (at_builtin; refine wpList_append_mm _ rfl _ _ 22 rfl wr.heap.size 5 i1 _ 1 1 Tryd.underlying22 hi1 hy0 hy1 hy2 rfl (by omega) (.slice (some ⟨wr.heap.size, 0, none⟩) 0 0) 0 [] rfl (Own.lit wr #[] 0 (Nat.le_refl _) (by simp) rfl) A3 li.length c3 _ rfl (HRD.out.alloc _) (vb_one _) (by simp only [maxLen]; omega) (by omega) (by simp) ?_
           intro v1 w2 hown1 hg1 hat1; rw [Nat.zero_add, List.nil_append] at hown1; obtain ⟨A1, c1, rfl, _⟩ := hown1.form; have HO1 : Hid _ := hown1; have HG1 : Hid _ := hg1; clear hown1 hg1 hat1)
        | (at_builtin; refine wpList_append_mm _ rfl _ _ 24 rfl w.heap.size 22 i0 _ 1 24 Tryd.underlying24 hi0 hz0 hz1 hz2 rfl (by omega) (.slice Ao i co) i vs' rfl (HOF.out _ _ HG1.out) (some ⟨w2.heap.size, 0, none⟩) 1 1 [.slice A1 li.length c1] rfl (Rd.of_blk (Blk.new _ _ _) rfl rfl (Nat.le_refl _)) (by simp [Value.oneCell']) (by simp only [maxLen]; omega) (by omega) (by have := HG1.out.size; simp at this ⊢; omega) ?_
           intro v3 w3 hown3 hg3 hat3))
      have hA : Chg [] wr (wr.alloc (.cells #[] 5)) := (Chg.refl [] wr).alloc _
      have hB1 : Chg [wr.heap.size] (wr.alloc (.cells #[] 5)) w2 := Chg.of_grown HG1.out (by intro k hk; injection hk with hk; simp [← hk])
      have hC : Chg [] w2 (w2.alloc (.cells #[.slice A1 li.length c1] 22)) := (Chg.refl [] w2).alloc _
      have hD : Chg (Value.slice Ao i co).ownBlock.toList (w2.alloc (.cells #[.slice A1 li.length c1] 22)) w3 := Chg.of_grown hg3 (by intro k hk; simp [hk])
      have hwr2 : Chg [wr.heap.size] wr (w2.alloc (.cells #[.slice A1 li.length c1] 22)) := ((hA.mono (by simp)).trans hB1).trans (hC.mono (by simp))
      have hlo : ∀ k ∈ (Value.slice Ao i co).ownBlock.toList, w.heap.size ≤ k ∧ k < wr.heap.size := fun k hk => HO.out.lt k (by simpa using hk)
      have s1 := hwr2.size
      have s2 := hC.size
      have hb4 : Bss (w2.alloc (.cells #[.slice A1 li.length c1] 22)) ((Value.slice Ao i co).ownBlock.toList ++ S) (vs' ++ [.slice A1 li.length c1]) (ls.take (i + 1)) := by
        rw [HTK.out]
        exact (HB.out.chg hwr2 (by intro k hk; simp at hk; omega)).snoc ((Bs.of_own _ HO1.out hby (fun k hk => by rcases List.mem_append.1 hk with h | h; exact (hlo k h).2; have := hS k h; have := hch.size; omega)).chg hC (by simp))
      have hb5 : Bss w3 (v3.ownBlock.toList ++ S) (vs' ++ [.slice A1 li.length c1]) (ls.take (i + 1)) := by
        refine ((hb4.more (T := v3.ownBlock.toList ++ ((Value.slice Ao i co).ownBlock.toList ++ S)) ?_).chg hD (fun k hk => .inl (List.mem_append_right _ (List.mem_append_left _ hk)))).more (fun k hk => .inl (by rcases List.mem_append.1 hk with h | h; exact List.mem_append_left _ h; exact List.mem_append_right _ (List.mem_append_right _ h)))
        intro k hk
        rcases List.mem_append.1 hk with h | h
        · rcases hat3 with e | e
          · left; rw [← e]; exact List.mem_append_left _ h
          · right; rw [e] at h; simp at h; simp; omega
        · exact .inl h
      go_roundg (L - (i + 1))
      case measure => omega
      case rel =>
        refine ⟨i + 1, _, rfl, hlt, by simp, hown3, hb5, ((hch.step hwr2 ?_).step hD ?_)⟩
        · intro k hk; simp at hk; right; omega
        · intro k hk; exact .inr (hlo k hk).1
    · have hgeI : ¬ (i : Int) < (L : Int) := by omega
      have hiL' : i = L := by omega
      subst hiL'
      go_wp2_with fail
      go_ret
      have hB := HB.out
      rw [List.take_of_length_le (by rw [HLE.out]; omega)] at hB
      exact ⟨_, rfl, vs', HO.out, hB.more (fun k hk => .inl (List.mem_append_right _ hk)), hch⟩
theorem Own.cells1 {w : World} {base L : Nat} {e : TypeId} {v : Value} {vs : List Value} (h : Own w base e 1 v L vs) (hL : 0 < L) :
    ∃ g o cap, v = .slice (some ⟨g, o, none⟩) L cap ∧ L ≤ cap ∧ base ≤ g ∧ g < w.heap.size ∧ ∀ j, j < L → w.cell? ⟨g, o + j, none⟩ = some (vs.getD j default) := by
  have hl := h.1
  rcases h.2 with ⟨_, h0⟩ | ⟨g, o, cap, cur, rfl, hb, hg, hnc, _, _, _⟩
  · omega
  · refine ⟨g, o, cap, rfl, hnc, hb, hg.lt, fun j hj => ?_⟩
    exact h.rd.cellAt (by rw [List.getD_eq_getElem?_getD, List.getElem?_eq_getElem (by omega)]; rfl) hL

end Go.Proofs.YtcpeldnikloebaaDoor
