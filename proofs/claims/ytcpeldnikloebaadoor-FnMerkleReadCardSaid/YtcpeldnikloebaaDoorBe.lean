/- Byte slices as strings, and bytes.Equal. -/
import Derived.Test.YtcpeldnikloebaaDoorTrS
import Derived.Laws.BytesArg
import Derived.Lib.BufferMore
set_option linter.unusedVariables false
set_option linter.unusedSimpArgs false
namespace Go.Proofs.YtcpeldnikloebaaDoor
open Go.RowKit Go.Mm Go.Sha

/-- string(b) of a slice that reads as l -/
theorem rd_str {w : World} {A : Option Addr} {n c : Nat} {l : List Int} (h : Rd w 1 A n (vb l)) : ∀ dst, Tryd.prog.underlying dst = some .string → (convert 22 dst (.slice A n c)).run Tryd.prog w = .ok (.string (strOfNums l)) w := by
  intro dst hd
  have hl : l.length = n := by have := h.1; rw [vb_len] at this; omega
  rcases Nat.eq_zero_or_pos n with rfl | hn
  · have : l = [] := List.eq_nil_of_length_eq_zero hl
    subst this
    rw [run_convert_bytes_string w 22 dst 5 _ 0 c Tryd.underlying22 Tryd.underlying5 hd]
    cases A <;> simp [Conv.bytesToString, loadCells]
    all_goals rfl
  · obtain ⟨ad, rfl, hlt, hc⟩ := h.2 hn
    have h0 : ∃ u, (vb l)[0]? = some u := by
      cases l with
      | nil => simp at hl; omega
      | cons x xs => exact ⟨_, rfl⟩
    obtain ⟨u, hu⟩ := h0
    have h1 := World.cell?_spot (hc 0 u hu)
    have h2 : ad = ⟨ad.block, ad.off, none⟩ := by
      obtain ⟨b, o, s⟩ := ad
      simp only [Addr.add] at h1
      simp at h1
      subst h1; rfl
    rw [h2] at hc ⊢
    refine run_convert_bytes_arg w 22 5 Tryd.underlying22 Tryd.underlying5 ad.block ad.off n c l hl (fun i hi => ?_) dst hd
    have := hc i (.int .u8 (l.getD i 0)) (by
      rw [vb, List.getElem?_map, List.getD_eq_getElem?_getD, List.getElem?_eq_getElem (by omega)]; rfl)
    rw [add_lit] at this
    exact this
theorem Bs.str {w : World} {S : List Nat} {v : Value} {l : List Int} (h : Bs w S v l) : ∀ dst, Tryd.prog.underlying dst = some .string → (convert 22 dst v).run Tryd.prog w = .ok (.string (strOfNums l)) w := by
  obtain ⟨A, c, rfl, hr, _⟩ := h
  exact rd_str hr

set_option maxHeartbeats 1000000 in
theorem beq_same (v1 v2 : Value) (l : List Int) (S1 S2 : List Nat) (w : World) (h1 : Bs w S1 v1 l) (h2 : Bs w S2 v2 l) :
    Calls Tryd.prog 34 #[v1, v2] w fun e w' => e = .returned (.bool true) ∧ w' = w := by
  have c1 := h1.str 9 Tryd.underlying9
  have c2 := h2.str 9 Tryd.underlying9
  obtain ⟨A1, n1, rfl, _⟩ := h1
  obtain ⟨A2, n2, rfl, _⟩ := h2
  go_enter Tryd.func34, Tryd.ntmps34
  go_wp2_with fail
  go_ret
  exact ⟨rfl, rfl⟩
end Go.Proofs.YtcpeldnikloebaaDoor
