/- Pushing leaves into a new tree: the state between two pushes; Root and Prove behind the last. -/
import Derived.Test.YtcpeldnikloebaaDoorRb
import Derived.Test.YtcpeldnikloebaaDoorCp
import Derived.Test.YtcpeldnikloebaaDoorMq
set_option linter.unusedVariables false
set_option linter.unusedSimpArgs false
namespace Go.Proofs.YtcpeldnikloebaaDoor
open Go.RowKit Go.Mm Go.Sha Merk

structure Pu (w wr : World) (T D : Nat) (pf : Bool) (idx : Nat) (ls : List (List Int)) (j : Nat) : Prop where
  ex : ∃ head k pv ps, Tr wr T D w.heap.size pf idx head k pv ps j ∧ Inv sha k (ls.take j) ∧ PSet sha idx k (ls.take j) ps ∧ wsum k = j
  ch : Chg [] w wr
  hT : w.heap.size ≤ T
  hD : w.heap.size ≤ D

theorem Pu.start {w wr : World} {T D idx : Nat} {pf : Bool} {ls : List (List Int)} (ht : Tr wr T D w.heap.size pf idx (.pointer none) [] (.slice none 0 0) [] 0) (hc : Chg [] w wr) (hT : w.heap.size ≤ T) (hD : w.heap.size ≤ D) : Pu w wr T D pf idx ls 0 :=
  ⟨⟨_, _, _, _, ht, rfl, rfl, rfl⟩, hc, hT, hD⟩

theorem Pu.push {w wr w2 : World} {T D idx j n : Nat} {pf : Bool} {ls : List (List Int)} {v : Value} {x : List Int} (h : Pu w wr T D pf idx ls j) (hj : j < ls.length) (hL : ls.length ≤ 200) (hidx : idx < 256) (hc : Chg [] wr w2)
    (ho : Own w2 wr.heap.size 5 1 v n (vb x)) (hx : ls.getD j [] = x) (hxl : x.length < 1000000) (hb : Bytes x) :
    Calls Tryd.prog 23 #[pt T, v] w2 fun e w' => e = .returned (.tuple #[]) ∧ Pu w w' T D pf idx ls (j + 1) := by
  obtain ⟨head, k, pv, ps, ht, hk, hp, hw⟩ := h.ex
  have hTl := ht.blk.lt
  have hDl := ht.hs.lt
  have hpvl : ∀ g, pv.ownBlock = some g → w.heap.size ≤ g ∧ g < wr.heap.size := by
    obtain ⟨vs, hown, _⟩ := ht.own
    exact hown.lt
  have hbs : Bs w2 (T :: D :: pv.ownBlock.toList) v x := Bs.of_own _ ho hb (by
    intro y hy
    simp only [List.mem_cons, Option.mem_toList] at hy
    rcases hy with rfl | rfl | hy
    · exact hTl
    · exact hDl
    · exact (hpvl y hy).2)
  have hps := set_len hk hp (by omega)
  refine (tpush_any T D w.heap.size pf idx j head pv v x k ps w2 (ht.chg hc) hbs hxl hw (by omega) hidx (by omega)).mono ?_
  rintro e w3 ⟨rfl, head', pv', ht3, hc3, _⟩
  refine ⟨rfl, ⟨head', _, pv', _, ht3, ?_, ?_, ?_⟩, (h.ch.trans hc).step hc3 ?_, h.hT, h.hD⟩
  · rw [take_getD hj, hx, pushP_fst]; exact push_inv sha _ hk
  · rw [take_getD hj, hx]
    have hs := pushP_set sha x hk hp
    rw [List.length_take, Nat.min_eq_left (by omega)] at hs
    exact hs
  · rw [pushP_fst, push_wsum]; omega
  · intro y hy
    simp only [List.mem_cons, Option.mem_toList] at hy
    rcases hy with rfl | rfl | hy
    · exact .inr h.hT
    · exact .inr h.hD
    · exact .inr (hpvl y hy).1

theorem Pu.root {w wr : World} {T D idx : Nat} {pf : Bool} {ls : List (List Int)} (h : Pu w wr T D pf idx ls ls.length) (h1 : 1 ≤ ls.length) (hL : ls.length ≤ 200) :
    Calls Tryd.prog 26 #[pt T] wr fun e w' => ∃ v, e = .returned v ∧ Own w' w.heap.size 5 1 v 32 (vb (mroot sha ls)) ∧ Chg [] w w' := by
  obtain ⟨head, k, pv, ps, ht, hk, hp, hw⟩ := h.ex
  rw [List.take_length] at hk
  have hne : k ≠ [] := by rintro rfl; simp [wsum] at hw; omega
  refine (troot_any T D _ head k wr (Tc.of ht) (by omega) hne).mono ?_
  rintro e w' ⟨v, rfl, ho, _, _, hc, _⟩
  rw [rootOf_inv sha hk] at ho
  exact ⟨v, rfl, ho.mono h.ch.size, h.ch.step hc (by simp; exact h.hD)⟩

theorem Pu.prove {w wr : World} {T D idx : Nat} {ls : List (List Int)} (h : Pu w wr T D true idx ls ls.length) (hi : idx < ls.length) (hL : ls.length ≤ 200) :
    Calls Tryd.prog 24 #[pt T] wr fun e w' => ∃ rv pv' vs', e = .returned (.tuple #[rv, pv', .int .u64 idx, .int .u64 ls.length]) ∧ Own w' w.heap.size 5 1 rv 32 (vb (mroot sha ls)) ∧
      Own w' w.heap.size 22 1 pv' (ls.getD idx [] :: mpath sha ls idx).length vs' ∧ Bss w' [] vs' (ls.getD idx [] :: mpath sha ls idx) ∧ Chg [] w w' := by
  obtain ⟨head, k, pv, ps, ht, hk, hp, hw⟩ := h.ex
  rw [List.take_length] at hk hp
  have hne : k ≠ [] := by rintro rfl; simp [wsum] at hw; omega
  have hps := set_len hk hp (by omega)
  have hpl : 0 < ps.length := by
    rcases ps with _ | ⟨p, r⟩
    · exact (PSet_nil_false sha k _ hk hi hp).elim
    · simp
  have hpvl : ∀ g, pv.ownBlock = some g → w.heap.size ≤ g := by
    obtain ⟨vs, hown, _⟩ := ht.own
    exact fun g hg => (hown.lt g hg).1
  refine (tprove_any T D w.heap.size idx _ head pv k ps wr ht (by omega) hne hpl (by omega)).mono ?_
  rintro e w' ⟨rv, pv', vs', rfl, ho, hop, hbs, hc, _⟩
  rw [rootOf_inv sha hk] at ho
  rw [prove_set sha hk hi hp] at hop hbs
  refine ⟨rv, pv', vs', rfl, ho.mono h.ch.size, hop, hbs, h.ch.step hc ?_⟩
  intro y hy
  simp only [List.mem_cons, Option.mem_toList] at hy
  rcases hy with rfl | hy
  · exact .inr h.hD
  · exact .inr (hpvl y hy)
end Go.Proofs.YtcpeldnikloebaaDoor
