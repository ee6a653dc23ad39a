/- Plain: a path's roots are 32 bytes each, and they are few. -/
import Derived.Test.YtcpeldnikloebaaDoorTrR
set_option linter.unusedVariables false
set_option linter.unusedSimpArgs false
namespace Go.Proofs.YtcpeldnikloebaaDoor
open Go.RowKit Go.Mm Go.Sha Merk

theorem mroot_bytes (l : List (List Int)) (h : l ≠ []) : Bytes (mroot sha l) ∧ (mroot sha l).length = 32 := by
  rw [mroot]
  have h0 : ¬ l.length = 0 := fun e => h (List.eq_nil_of_length_eq_zero e)
  rw [if_neg h0]
  split <;> exact ⟨sha_bytes _, sha_len _⟩
theorem mpath_32 (f : Nat) : ∀ (l : List (List Int)) (i : Nat), l.length ≤ f → ∀ x ∈ mpath sha l i, x.length = 32 := by
  induction f with
  | zero => intro l i hl x hx; rw [mpath_one sha (by omega)] at hx; cases hx
  | succ f ih =>
    intro l i hl x hx
    rcases Nat.lt_or_ge 1 l.length with h1 | h1
    · have hp1 := hp_lt (n := l.length) (by omega)
      have hp2 := hp_pos l.length
      have ht : (l.take (hp l.length)).length = hp l.length := by simp; omega
      have hd : (l.drop (hp l.length)).length = l.length - hp l.length := by simp
      rw [mpath, if_neg (by omega)] at hx
      split at hx
      · rcases List.mem_append.1 hx with h | h
        · exact ih _ _ (by omega) x h
        · rw [List.mem_singleton.1 h]
          exact (mroot_bytes _ (fun e => by rw [e] at hd; simp at hd; omega)).2
      · rcases List.mem_append.1 hx with h | h
        · exact ih _ _ (by omega) x h
        · rw [List.mem_singleton.1 h]
          exact (mroot_bytes _ (fun e => by rw [e] at ht; simp at ht; omega)).2
    · rw [mpath_one sha h1] at hx; cases hx
def lensOf (n : Nat) : Bool := (List.range n).all fun i => decide ((dirsS n i n).length ≤ 10)
theorem lens_200 : (List.range 201).all lensOf = true := by decide +kernel
theorem mpath_len10 {l : List (List Int)} {i : Nat} (hl : l.length ≤ 200) (hi : i < l.length) : (mpath sha l i).length ≤ 10 := by
  rw [(path_dirs sha l.length l i (Nat.le_refl _) hi).1]
  have h := List.all_eq_true.1 lens_200 l.length (by simp; omega)
  exact of_decide_eq_true (List.all_eq_true.1 h i (by simp; omega))
/-- a proof's elements: the leaf and its path -/
theorem proof_le {l : List (List Int)} {i : Nat} {k : Nat} (hl : ∀ x ∈ l, x.length ≤ k) (hk : 32 ≤ k) (j : Nat) : ((l.getD i [] :: mpath sha l i).getD j []).length ≤ k := by
  cases j with
  | zero =>
    show (l.getD i []).length ≤ k
    rw [List.getD_eq_getElem?_getD]
    rcases h : l[i]? with _ | x
    · simp
    · exact hl x (List.mem_of_getElem? h)
  | succ j =>
    show ((mpath sha l i).getD j []).length ≤ k
    rw [List.getD_eq_getElem?_getD]
    rcases h : (mpath sha l i)[j]? with _ | x
    · simp
    · have := mpath_32 l.length l i (Nat.le_refl _) x (List.mem_of_getElem? h)
      simp only [Option.getD_some]; omega
end Go.Proofs.YtcpeldnikloebaaDoor
