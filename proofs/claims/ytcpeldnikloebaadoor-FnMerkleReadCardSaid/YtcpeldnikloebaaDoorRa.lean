/- (*Tree).ReadAll: the segments of the data become the leaves. -/
import Derived.Test.YtcpeldnikloebaaDoorRs
set_option linter.unusedVariables false
set_option linter.unusedSimpArgs false
namespace Go.Proofs.YtcpeldnikloebaaDoor
open Go.RowKit Go.Mm Go.Sha Merk

/-- bytes do not lie in a reader's block -/
theorem Bs.sepR {w : World} {S : List Nat} {v : Value} {l : List Int} {R n c : Nat} {A : Option Addr} {i pr : Int} (h : Bs w S v l) (hR : Blk w R 59 #[.slice A n c, .int .i64 i, .int .i64 pr]) : Bs w (R :: S) v l := by
  obtain ⟨A', c', e, hr, hb, ha⟩ := h
  refine ⟨A', c', e, hr, hb, fun ad e1 e2 hm => ?_⟩
  rcases List.mem_cons.1 hm with hm | hm
  · obtain ⟨ad', e', hlt, hc⟩ := hr.2 e2
    rw [e1] at e'; injection e' with e'; subst e'
    obtain ⟨x, xs, rfl⟩ : ∃ x xs, l = x :: xs := by
      cases l with
      | nil => simp at e2
      | cons x xs => exact ⟨x, xs, rfl⟩
    have h0 := hc 0 (.int .u8 x) (by simp [vb])
    have hs := World.cell?_spot h0
    rw [show ad.add 0 = ad by unfold Addr.add; simp] at h0 hs
    have h1 : ad = ⟨R, ad.off, none⟩ := by
      obtain ⟨b, o, s⟩ := ad
      simp only at hm hs ⊢
      subst hm; subst hs; rfl
    rw [h1, hR.cell] at h0
    rcases ho : ad.off with _ | _ | _ | o <;> rw [ho] at h0 <;> simp at h0
  · exact ha ad e1 e2 hm
theorem Chain.sepR {w : World} {S : List Nat} {R n c : Nat} {A : Option Addr} {i pr : Int} (hR : Blk w R 59 #[.slice A n c, .int .i64 i, .int .i64 pr]) : ∀ {k : Stk} {p : Value}, Chain w S k p → Chain w (R :: S) k p
  | [], _, h => h
  | (_, _) :: _, _, ⟨g, nx, sv, e, hg, hb, hv, hl, hr⟩ => ⟨g, nx, sv, e, (fun hm => by
      rcases List.mem_cons.1 hm with hm | hm
      · exact (hb.ne_ hR (by decide)) hm
      · exact hg hm), hb, hv.sepR hR, hl, hr.sepR hR⟩
/-- what a reader does leaves the tree -/
theorem Tr.keepR {w w' : World} {S' : List Nat} {T D base R n c : Nat} {A : Option Addr} {i pr : Int} {pf : Bool} {idx : Nat} {head : Value} {k : Stk} {pv : Value} {ps : List (List Int)} {cur : Nat} (h : Tr w T D base pf idx head k pv ps cur)
    (hR : Blk w R 59 #[.slice A n c, .int .i64 i, .int .i64 pr]) (hc : Chg S' w w') (hs : ∀ k ∈ S', k = R ∨ w.heap.size ≤ k) : Tr w' T D base pf idx head k pv ps cur := by
  have hDl := h.hs.lt
  have hTl := h.blk.lt
  have hRT : R ≠ T := hR.ne_ h.blk (by decide)
  have hRD : R ≠ D := by
    obtain ⟨a, b, c, hd⟩ := h.hs
    exact hR.ne_ hd (by decide)
  obtain ⟨vs, ho, hbs⟩ := h.own
  have hs' : ∀ k ∈ S', k ∈ (R :: T :: D :: pv.ownBlock.toList) ∨ w.heap.size ≤ k := fun k hk => by
    rcases hs k hk with rfl | h
    · left; simp
    · right; exact h
  have hbs' : Bss w (R :: T :: D :: pv.ownBlock.toList) vs ps := ⟨hbs.1, fun k hk => (hbs.2 k hk).sepR hR⟩
  have hoR : ∀ g, pv.ownBlock = some g → g ≠ R := by
    rcases ho.2 with ⟨rfl, _⟩ | ⟨g, o, cap, cur, rfl, hb, hg, _⟩
    · intro g hg; simp [Value.ownBlock] at hg
    · intro g' hg'
      simp only [Value.ownBlock, Option.some.injEq] at hg'
      subst hg'
      exact hg.ne_ hR (by decide)
  have hne : ∀ k, k < w.heap.size → k ≠ R → k ∉ S' := fun k hk hkr hm => by
    rcases hs k hm with h | h
    · exact hkr h
    · omega
  have hsub : ∀ y ∈ (T :: D :: pv.ownBlock.toList), y ∈ (R :: T :: D :: pv.ownBlock.toList) ∨ w'.heap.size ≤ y := fun y hy => .inl (List.mem_cons_of_mem _ hy)
  exact ⟨h.blk.chg hc (hne _ hTl hRT.symm), h.hs.chg hc (hne _ hDl hRD.symm), h.ne, ((h.chain.sepR hR).chg hc hs').more hsub, ⟨vs, ho.chg hc (fun g hg => hne g (ho.lt g hg).2 (hoR g hg)), (hbs'.chg hc hs').more hsub⟩, h.a1, h.a2, Nat.le_trans h.base hc.size⟩
end Go.Proofs.YtcpeldnikloebaaDoor
