import Derived.WalkKit
import Derived.Maps.AppendAt
import Derived.Deep.AppendLies
import Derived.RegionTactic
import Derived.OwnWalk
import Derived.Laws.OwnMore
import Derived.Laws.MakeOwn
import Derived.Laws.CopyRow
import Derived.Laws.Rows
import Derived.Deep.Draws
import Derived.StillTailTactics
set_option linter.unusedVariables false
set_option linter.unusedSimpArgs false
namespace Go.Mm
open Go.RowKit

/-- Only blocks of S (and new ones) may have turned. -/
structure Chg (S : List Nat) (w w' : World) : Prop where
  os : w'.os = w.os
  tape : w'.tape = w.tape
  output : w'.output = w.output
  size : w.heap.size ≤ w'.heap.size
  block : ∀ k, k < w.heap.size → k ∉ S → w'.heap[k]? = w.heap[k]?

section
variable {S T : List Nat} {a b c w w' : World} {g : Nat}
theorem Chg.refl (S : List Nat) (w : World) : Chg S w w := ⟨rfl, rfl, rfl, Nat.le_refl _, fun _ _ _ => rfl⟩
theorem Chg.trans (h : Chg S a b) (k : Chg S b c) : Chg S a c :=
  ⟨k.os.trans h.os, k.tape.trans h.tape, k.output.trans h.output, Nat.le_trans h.size k.size, fun i hi hn => (k.block i (Nat.lt_of_lt_of_le hi h.size) hn).trans (h.block i hi hn)⟩
theorem Chg.mono (h : Chg S a b) (hs : ∀ k ∈ S, k ∈ T) : Chg T a b := ⟨h.os, h.tape, h.output, h.size, fun i hi hn => h.block i hi fun hh => hn (hs i hh)⟩
theorem Chg.drew (h : Chg S a w) : Chg S a w.drew := ⟨h.os, h.tape, h.output, h.size, h.block⟩
theorem Chg.drewN (h : Chg S a w) (n : Nat) : Chg S a (w.drewN n) := ⟨h.os, h.tape, h.output, h.size, h.block⟩
theorem Chg.of_below (h : Below a.heap.size a w) : Chg S a w := ⟨h.os, h.tape, h.output, h.size, fun i hi _ => h.block i hi⟩
theorem Chg.below (h : Chg [] a w) : Below a.heap.size a w := ⟨h.os, h.tape, h.output, h.size, fun i hi => h.block i hi (by simp)⟩
theorem Chg.of_grown {row : Option Nat} (h : a.grownBy w row) (hr : ∀ k, row = some k → k ∈ S) : Chg S a w :=
  ⟨h.os, h.tape, h.output, h.size, fun i hi hn => h.block i hi fun e => hn (hr i e.symm)⟩
/-- a block that is new to the first world need not be named -/
theorem Chg.new (h : Chg (g :: S) a w) (hg : a.heap.size ≤ g) : Chg S a w :=
  ⟨h.os, h.tape, h.output, h.size, fun i hi hn => h.block i hi (by
    rintro hm
    rcases List.mem_cons.1 hm with rfl | hm
    · omega
    · exact hn hm)⟩
/-- of the blocks named only old ones count -/
theorem Chg.old (h : Chg T a w) (hs : ∀ k ∈ T, k < a.heap.size → k ∈ S) : Chg S a w :=
  ⟨h.os, h.tape, h.output, h.size, fun i hi hn => h.block i hi fun hm => hn (hs i hm hi)⟩
theorem Chg.alloc (h : Chg S a w) (o : Obj) : Chg S a (w.alloc o) :=
  h.trans ⟨rfl, rfl, rfl, by simp, fun k hk _ => Below.heap_alloc _ _ _ hk⟩
theorem Chg.setCell (h : Chg S a w) {p : Addr} (hp : p.block ∈ S ∨ a.heap.size ≤ p.block) (u : Value) : Chg S a (w.setCell p u) :=
  ⟨h.os, h.tape, h.output, by simpa [World.setCell] using h.size, fun i hi hn => (Below.heap_setCell w p u i (by
    rintro rfl
    rcases hp with hp | hp
    · exact hn hp
    · omega)).trans (h.block i hi hn)⟩
theorem Chg.cell (h : Chg S a w) {p : Addr} (hp : p.block < a.heap.size) (hn : p.block ∉ S) : w.cell? p = a.cell? p := World.cell?_of_block (h.block _ hp hn)
theorem Chg.frozen (h : Chg S a w) {p : Addr} (hp : p.block < a.heap.size) (hn : p.block ∉ S) : w.frozen? p = a.frozen? p := World.frozen?_of_block (h.block _ hp hn)
/-- the step behind another -/
theorem Chg.step (h : Chg S a b) (k : Chg T b c) (hs : ∀ k ∈ T, k ∈ S ∨ a.heap.size ≤ k) : Chg S a c :=
  ⟨k.os.trans h.os, k.tape.trans h.tape, k.output.trans h.output, Nat.le_trans h.size k.size, fun i hi hn =>
    (k.block i (Nat.lt_of_lt_of_le hi h.size) fun hm => (hs i hm).elim hn (fun h => by omega)).trans (h.block i hi hn)⟩
end

/-- block g is just these cells, none frozen -/
def Blk (w : World) (g : Nat) (t : TypeId) (cs : Array Value) : Prop := w.heap[g]? = some (.cells cs t (0, 0))

section
variable {w w' : World} {g : Nat} {t : TypeId} {cs : Array Value} {S : List Nat}
theorem Blk.lt (h : Blk w g t cs) : g < w.heap.size := by
  rcases Nat.lt_or_ge g w.heap.size with hlt | hge
  · exact hlt
  · unfold Blk at h; rw [Array.getElem?_eq_none hge] at h; cases h
theorem Blk.cell (h : Blk w g t cs) (i : Nat) : w.cell? ⟨g, i, none⟩ = cs[i]? := cell_of_row w g i cs t (0, 0) h
theorem Blk.frozen (h : Blk w g t cs) (i : Nat) : w.frozen? ⟨g, i, none⟩ = false := by
  unfold Blk at h
  simp [World.frozen?, h]
theorem Blk.new (w : World) (t : TypeId) (cs : Array Value) : Blk (w.alloc (.cells cs t)) w.heap.size t cs := heap_alloc_new w _
theorem Blk.drew (h : Blk w g t cs) : Blk w.drew g t cs := h
theorem Blk.drewN (h : Blk w g t cs) (n : Nat) : Blk (w.drewN n) g t cs := h
theorem Blk.alloc (h : Blk w g t cs) (o : Obj) : Blk (w.alloc o) g t cs := (Below.heap_alloc w o g h.lt).trans h
theorem Blk.set_ (h : Blk w g t cs) (i : Nat) (u : Value) : Blk (w.setCell ⟨g, i, none⟩ u) g t (cs.setIfInBounds i u) := by
  unfold Blk at h ⊢
  simp [World.setCell, Array.getElem?_modify, h]
theorem Blk.far (h : Blk w g t cs) {p : Addr} (hp : g ≠ p.block) (u : Value) : Blk (w.setCell p u) g t cs := (Below.heap_setCell w p u g hp).trans h
theorem Blk.chg (h : Blk w g t cs) (hc : Chg S w w') (hg : g ∉ S) : Blk w' g t cs := (hc.block g h.lt hg).trans h
theorem Blk.below {B : Nat} (h : Blk w g t cs) (hb : Below B w w') (hg : g < B) : Blk w' g t cs := (hb.block g hg).trans h
theorem Blk.grown {row : Option Nat} (h : Blk w g t cs) (hb : w.grownBy w' row) (hg : some g ≠ row) : Blk w' g t cs := (hb.block g h.lt hg).trans h
theorem Blk.same {t' : TypeId} {cs' : Array Value} (h : Blk w g t cs) (h' : Blk w g t' cs') : t = t' ∧ cs = cs' := by
  unfold Blk at h h'
  rw [h] at h'
  injection h' with h'
  injection h' with h1 h2
  exact ⟨h2, h1⟩
theorem Blk.ne_ {g' : Nat} {t' : TypeId} {cs' : Array Value} (h : Blk w g t cs) (h' : Blk w g' t' cs') (hne : t ≠ t') : g ≠ g' := by
  rintro rfl
  exact hne (h.same h').1
end

/-- eight cells written, one behind the other -/
theorem Blk.set8 {w : World} {g : Nat} {t : TypeId} {c0 c1 c2 c3 c4 c5 c6 c7 : Value} (h : Blk w g t #[c0, c1, c2, c3, c4, c5, c6, c7]) (x0 x1 x2 x3 x4 x5 x6 x7 : Value) : Blk ((((((((w.setCell ⟨g, 0, none⟩ x0).setCell ⟨g, 1, none⟩ x1).setCell ⟨g, 2, none⟩ x2).setCell ⟨g, 3, none⟩ x3).setCell ⟨g, 4, none⟩ x4).setCell ⟨g, 5, none⟩ x5).setCell ⟨g, 6, none⟩ x6).setCell ⟨g, 7, none⟩ x7) g t #[x0, x1, x2, x3, x4, x5, x6, x7] := by
  have h8 := (((((((h.set_ 0 x0).set_ 1 x1).set_ 2 x2).set_ 3 x3).set_ 4 x4).set_ 5 x5).set_ 6 x6).set_ 7 x7
  simp only [List.setIfInBounds_toArray, List.set_cons_zero, List.set_cons_succ] at h8
  exact h8
theorem Chg.set8 (w : World) (g : Nat) (x0 x1 x2 x3 x4 x5 x6 x7 : Value) : Chg [g] w ((((((((w.setCell ⟨g, 0, none⟩ x0).setCell ⟨g, 1, none⟩ x1).setCell ⟨g, 2, none⟩ x2).setCell ⟨g, 3, none⟩ x3).setCell ⟨g, 4, none⟩ x4).setCell ⟨g, 5, none⟩ x5).setCell ⟨g, 6, none⟩ x6).setCell ⟨g, 7, none⟩ x7) :=
  ((((((((Chg.refl [g] w).setCell (p := ⟨g, 0, none⟩) (.inl (by simp)) x0).setCell (p := ⟨g, 1, none⟩) (.inl (by simp)) x1).setCell (p := ⟨g, 2, none⟩) (.inl (by simp)) x2).setCell (p := ⟨g, 3, none⟩) (.inl (by simp)) x3).setCell (p := ⟨g, 4, none⟩) (.inl (by simp)) x4).setCell (p := ⟨g, 5, none⟩) (.inl (by simp)) x5).setCell (p := ⟨g, 6, none⟩) (.inl (by simp)) x6).setCell (p := ⟨g, 7, none⟩) (.inl (by simp)) x7

theorem add_lit (g o i : Nat) : (⟨g, o, none⟩ : Addr).add i = ⟨g, o + i, none⟩ := by
  unfold Addr.add; split <;> simp_all
theorem block_add (a : Addr) (n : Nat) : (a.add n).block = a.block := by unfold Addr.add; split <;> rfl
theorem add_add (a : Addr) (i j : Nat) : (a.add i).add j = a.add (i + j) := by
  unfold Addr.add
  by_cases hi : i = 0 <;> by_cases hj : j = 0 <;> simp [hi, hj, Nat.add_assoc]

/-- a slice value that reads as cells xs (n elements of size cells); nil let in -/
def Rd (w : World) (size : Nat) (A : Option Addr) (n : Nat) (xs : List Value) : Prop :=
  xs.length = n * size ∧ (0 < n → ∃ ad, A = some ad ∧ ad.block < w.heap.size ∧ ∀ j u, xs[j]? = some u → w.cell? (ad.add j) = some u)

section
variable {w w' : World} {size n : Nat} {A : Option Addr} {xs : List Value} {S : List Nat}
theorem Rd.nil (w : World) (size : Nat) (A : Option Addr) : Rd w size A 0 [] := ⟨by simp, fun h => absurd h (by omega)⟩
theorem Rd.keep (h : Rd w size A n xs) (hs : w.heap.size ≤ w'.heap.size) (hk : ∀ ad, A = some ad → 0 < n → w'.heap[ad.block]? = w.heap[ad.block]?) : Rd w' size A n xs :=
  ⟨h.1, fun hn => by
    obtain ⟨ad, e, hb, hc⟩ := h.2 hn
    exact ⟨ad, e, by omega, fun j u hu => (World.cell?_of_block (w := w) (by rw [block_add]; exact hk ad e hn)).trans (hc j u hu)⟩⟩
theorem Rd.chg (h : Rd w size A n xs) (hc : Chg S w w') (hk : ∀ ad, A = some ad → 0 < n → ad.block ∉ S) : Rd w' size A n xs :=
  h.keep hc.size fun ad e hn => by
    obtain ⟨ad', e', hb, _⟩ := h.2 hn
    rw [e] at e'
    injection e' with e'
    subst e'
    exact hc.block _ hb (hk ad e hn)
theorem Rd.below (h : Rd w size A n xs) (hb : Below w.heap.size w w') : Rd w' size A n xs := h.chg (Chg.of_below (S := []) hb) (fun _ _ _ => by simp)
theorem Rd.drew (h : Rd w size A n xs) : Rd w.drew size A n xs := h
theorem Rd.drewN (h : Rd w size A n xs) (k : Nat) : Rd (w.drewN k) size A n xs := h
theorem Rd.alloc (h : Rd w size A n xs) (o : Obj) : Rd (w.alloc o) size A n xs := h.chg ((Chg.refl [] w).alloc o) (fun _ _ _ => by simp)
theorem Rd.cut (h : Rd w size A n xs) {k cap : Nat} (hk : k ≤ n) (hc : n ≤ cap) :
    Rd w size (if cap = k then A else A.map (·.add (k * size))) (n - k) (xs.drop (k * size)) := by
  refine ⟨by rw [List.length_drop, h.1, Nat.sub_mul], fun hn => ?_⟩
  obtain ⟨ad, rfl, hb, hcell⟩ := h.2 (by omega)
  rw [if_neg (by omega)]
  refine ⟨ad.add (k * size), rfl, by rw [block_add]; exact hb, fun j u hu => ?_⟩
  rw [add_add]
  exact hcell _ u (by rw [← hu, List.getElem?_drop])
theorem Rd.upto (h : Rd w size A n xs) {k : Nat} (hk : k ≤ n) : Rd w size A k (xs.take (k * size)) := by
  refine ⟨by rw [List.length_take, h.1]; exact Nat.min_eq_left (Nat.mul_le_mul_right _ hk), fun hn => ?_⟩
  obtain ⟨ad, e, hb, hcell⟩ := h.2 (by omega)
  refine ⟨ad, e, hb, fun j u hu => ?_⟩
  rw [List.getElem?_take] at hu
  split at hu
  · exact hcell j u hu
  · cases hu
theorem Rd.of_blk {g o cap : Nat} {t : TypeId} {cs : Array Value} (h : Blk w g t cs) (hl : xs.length = n * size) (hx : (cs.toList.drop o).take (n * size) = xs) (_hc : n ≤ cap) :
    Rd w size (some ⟨g, o, none⟩) n xs := by
  refine ⟨hl, fun _ => ⟨_, rfl, h.lt, fun j u hu => ?_⟩⟩
  rw [add_lit, h.cell, ← hx] at *
  rw [List.getElem?_take] at hu
  split at hu
  · simpa using hu
  · cases hu
theorem Rd.cellAt {g o : Nat} (h : Rd w size (some ⟨g, o, none⟩) n xs) {j : Nat} {u : Value} (hu : xs[j]? = some u) (hn : 0 < n) : w.cell? ⟨g, o + j, none⟩ = some u := by
  obtain ⟨ad, e, _, hc⟩ := h.2 hn
  injection e with e
  subst e
  rw [← add_lit]
  exact hc j u hu
end

/-- a slice value of the call's own: nil, or the head of a part of a block from base on -/
def Own (w : World) (base : Nat) (e : TypeId) (size : Nat) (v : Value) (n : Nat) (xs : List Value) : Prop :=
  xs.length = n * size ∧
  ((v = .slice none 0 0 ∧ n = 0) ∨
   ∃ g o cap cur, v = .slice (some ⟨g, o, none⟩) n cap ∧ base ≤ g ∧ Blk w g e cur ∧ n ≤ cap ∧ cap ≤ maxLen ∧ o + cap * size ≤ cur.size ∧ (cur.toList.drop o).take (n * size) = xs)

section
variable {w w' : World} {base n size : Nat} {e : TypeId} {v : Value} {xs : List Value} {S : List Nat}
theorem Own.nil (w : World) (base : Nat) (e : TypeId) (size : Nat) : Own w base e size (.slice none 0 0) 0 [] := ⟨by simp, .inl ⟨rfl, rfl⟩⟩
theorem Own.lt (h : Own w base e size v n xs) : ∀ k, v.ownBlock = some k → base ≤ k ∧ k < w.heap.size := by
  intro k hk
  rcases h.2 with ⟨rfl, _⟩ | ⟨g, o, cap, cur, rfl, hb, hg, _⟩
  · simp [Value.ownBlock] at hk
  · simp [Value.ownBlock] at hk
    subst hk
    exact ⟨hb, hg.lt⟩
theorem Own.keep (h : Own w base e size v n xs) (hk : ∀ g, v.ownBlock = some g → w'.heap[g]? = w.heap[g]?) : Own w' base e size v n xs := by
  refine ⟨h.1, ?_⟩
  rcases h.2 with hn | ⟨g, o, cap, cur, rfl, hb, hg, rest⟩
  · exact .inl hn
  · exact .inr ⟨g, o, cap, cur, rfl, hb, (hk g rfl).trans hg, rest⟩
theorem Own.chg (h : Own w base e size v n xs) (hc : Chg S w w') (hk : ∀ g, v.ownBlock = some g → g ∉ S) : Own w' base e size v n xs :=
  h.keep fun g hg => hc.block g (h.lt g hg).2 (hk g hg)
theorem Own.drew (h : Own w base e size v n xs) : Own w.drew base e size v n xs := h
theorem Own.drewN (h : Own w base e size v n xs) (k : Nat) : Own (w.drewN k) base e size v n xs := h
theorem Own.alloc (h : Own w base e size v n xs) (o : Obj) : Own (w.alloc o) base e size v n xs := h.chg ((Chg.refl [] w).alloc o) (fun _ _ => by simp)
theorem Own.mono {base' : Nat} (h : Own w base e size v n xs) (hb : base' ≤ base) : Own w base' e size v n xs := by
  refine ⟨h.1, ?_⟩
  rcases h.2 with hn | ⟨g, o, cap, cur, rfl, hb', r⟩
  · exact .inl hn
  · exact .inr ⟨g, o, cap, cur, rfl, by omega, r⟩
theorem Own.rebase (h : Own w base e size v n xs) {base' : Nat} (hb : ∀ g, v.ownBlock = some g → base' ≤ g) : Own w base' e size v n xs := by
  refine ⟨h.1, ?_⟩
  rcases h.2 with hn | ⟨g, o, cap, cur, rfl, hb', r⟩
  · exact .inl hn
  · exact .inr ⟨g, o, cap, cur, rfl, hb g rfl, r⟩
theorem Own.form (h : Own w base e size v n xs) : ∃ A cap, v = .slice A n cap ∧ n ≤ cap ∧ cap ≤ maxLen := by
  rcases h.2 with ⟨rfl, rfl⟩ | ⟨g, o, cap, cur, rfl, hb, hg, h1, h2, _⟩
  · exact ⟨none, 0, rfl, Nat.le_refl _, by simp [maxLen]⟩
  · exact ⟨_, _, rfl, h1, h2⟩
theorem Own.rd {A : Option Addr} {c : Nat} (h : Own w base e size (.slice A n c) n xs) : Rd w size A n xs := by
  rcases h.2 with ⟨hv, rfl⟩ | ⟨g, o, cap, cur, hv, hb, hg, h1, h2, h3, h4⟩
  · have : xs = [] := List.eq_nil_of_length_eq_zero (by simpa using h.1)
    subst this
    exact Rd.nil w size A
  · injection hv with hA _ _
    subst hA
    exact Rd.of_blk hg h.1 h4 h1
theorem Own.cut {A : Option Addr} {c k : Nat} (h : Own w base e size (.slice A n c) n xs) (hk : k ≤ n) :
    Own w base e size (.slice (if c = k then A else A.map (·.add (k * size))) (n - k) (c - k)) (n - k) (xs.drop (k * size)) := by
  refine ⟨by rw [List.length_drop, h.1, Nat.sub_mul], ?_⟩
  rcases h.2 with ⟨hv, rfl⟩ | ⟨g, o, cap, cur, hv, hb, hg, h1, h2, h3, h4⟩
  · injection hv with hA _ hc
    subst hA; subst hc
    have : k = 0 := by omega
    subst this
    exact .inl ⟨by simp, rfl⟩
  · injection hv with hA _ hc
    subst hA; subst hc
    right
    by_cases hck : c = k
    · subst hck
      rw [if_pos rfl]
      have : n = c := by omega
      subst this
      refine ⟨g, o, 0, cur, by simp, hb, hg, by omega, by omega, by omega, ?_⟩
      have : xs.drop (n * size) = [] := by rw [List.drop_eq_nil_iff, h.1]; exact Nat.le_refl _
      rw [this]; simp
    · rw [if_neg hck]
      refine ⟨g, o + k * size, c - k, cur, by simp [add_lit], hb, hg, by omega, by omega, ?_, ?_⟩
      · have : (c - k) * size + k * size = c * size := by rw [← Nat.add_mul]; congr 1; omega
        omega
      · rw [← h4, List.drop_take, List.drop_drop, Nat.sub_mul]
theorem Own.upto {A : Option Addr} {c k : Nat} (h : Own w base e size (.slice A n c) n xs) (hk : k ≤ n) :
    Own w base e size (.slice A k c) k (xs.take (k * size)) := by
  have hkn : k * size ≤ n * size := Nat.mul_le_mul_right _ hk
  refine ⟨by rw [List.length_take, h.1]; exact Nat.min_eq_left hkn, ?_⟩
  rcases h.2 with ⟨hv, rfl⟩ | ⟨g, o, cap, cur, hv, hb, hg, h1, h2, h3, h4⟩
  · injection hv with hA _ hc
    subst hA; subst hc
    have : k = 0 := by omega
    subst this
    exact .inl ⟨rfl, rfl⟩
  · injection hv with hA _ hc
    subst hA; subst hc
    exact .inr ⟨g, o, c, cur, rfl, hb, hg, by omega, h2, h3, by rw [← h4, List.take_take, Nat.min_eq_left hkn]⟩
/-- a new block read as a slice, whole -/
theorem Own.lit (w : World) (cs : Array Value) (n : Nat) (hb : base ≤ w.heap.size) (hm : n ≤ maxLen) (hs : cs.size = n * size) :
    Own (w.alloc (.cells cs e)) base e size (.slice (some ⟨w.heap.size, 0, none⟩) n n) n cs.toList :=
  ⟨by simpa using hs, .inr ⟨w.heap.size, 0, n, cs, rfl, hb, Blk.new w e cs, Nat.le_refl _, hm, by omega, by rw [← hs, List.drop_zero, ← Array.length_toList, List.take_length]⟩⟩
theorem Own.of_row (h : w.ownsRow base e size v n xs) : Own w base e size v n xs := by
  refine ⟨h.1, ?_⟩
  rcases h.2 with hn | ⟨g, cap, cur, rfl, hb, hg, h1, h2, h3, h4⟩
  · exact .inl hn
  · exact .inr ⟨g, 0, cap, cur, rfl, hb, hg, h1, h2, by omega, by simpa using h4⟩
end

section
variable {P : Program} (w : World)
theorem run_append_of_nil' (base : Nat) (t ty e : TypeId) (i : TypeInfo) (size : Nat) (ht : P.underlying t = some (.slice e)) (hi : P.info? e = some i)
    (v : Value) (n : Nat) (xs : List Value) (hown : Own w base e size v n xs) (c : Nat) : (Builtin.append_ #[t, t] ty #[v, .slice none 0 c]).run P w = .ok v w := by
  rcases hown.2 with ⟨rfl, rfl⟩ | ⟨g, o, cap, cur, rfl, _, _, hnc, _⟩
  · simp [Builtin.append_, run_underlying ht, sizeOf, typeInfo, hi, Builtin.lenOf, Builtin.firstCells]
  · simp [Builtin.append_, run_underlying ht, sizeOf, typeInfo, hi, Builtin.lenOf, Builtin.firstCells, hnc, storeCells]

theorem run_append_room' (t ty e : TypeId) (i : TypeInfo) (ht : P.underlying t = some (.slice e)) (hi : P.info? e = some i)
    (g o sLen sCap : Nat) (cur : Array Value) (hg : w.heap[g]? = some (.cells cur e (0, 0)))
    (a : Addr) (m c : Nat) (news : List Value) (hl : news.length = m * i.size) (hnews : ∀ j u, news[j]? = some u → w.cell? (a.add j) = some u) (h1 : ∀ u ∈ news, u.oneCell' = true)
    (hroom : sLen + m ≤ sCap) (hfit : o + sLen * i.size + news.length ≤ cur.size) :
    (Builtin.append_ #[t, t] ty #[.slice (some ⟨g, o, none⟩) sLen sCap, .slice (some a) m c]).run P w =
      .ok (.slice (some ⟨g, o, none⟩) (sLen + m) sCap) (w.setRow g (cur.toList.take (o + sLen * i.size) ++ news ++ cur.toList.drop (o + sLen * i.size + news.length)).toArray) := by
  have hf := run_firstCells_some (P := P) w i.size m a m c news hl hnews
  have hst := run_storeCells_at P g (o + sLen * i.size) e news 0 cur w hg (by simpa using hfit) h1
  simp only [Nat.add_zero] at hst
  simp [Builtin.append_, run_underlying ht, sizeOf, typeInfo, hi, Builtin.lenOf, hroom, hf, add_lit, hst]

theorem run_append_mm (base : Nat) (t ty e : TypeId) (i : TypeInfo) (z : Value) (size bytes : Nat) (ht : P.underlying t = some (.slice e)) (hi : P.info? e = some i) (hz : i.zero = some z)
    (hsize : i.size = size) (hby : i.bytes = bytes) (hzs : z.cells.size = size) (_hsz : 0 < size)
    (v : Value) (n : Nat) (xs : List Value) (hown : Own w base e size v n xs)
    (A : Option Addr) (m c : Nat) (news : List Value) (hr : Rd w size A m news) (h1 : ∀ u ∈ news, u.oneCell' = true)
    (h63 : n + m ≤ maxLen) (hbytes : (n + m) * bytes ≤ 140737488355328) (hbase : base ≤ w.heap.size) :
    ∃ v' w', (Builtin.append_ #[t, t] ty #[v, .slice A m c]).run P w = .ok v' w' ∧ Own w' base e size v' (n + m) (xs ++ news) ∧ w.grownBy w' v.ownBlock ∧
      (v'.ownBlock = v.ownBlock ∨ v'.ownBlock = some w.heap.size) := by
  subst hsize
  subst hby
  rcases A with _ | ad
  · have hm : m = 0 := by
      rcases Nat.eq_zero_or_pos m with h0 | h0
      · exact h0
      · obtain ⟨ad, h, _⟩ := hr.2 h0
        cases h
    subst hm
    have hn : news = [] := List.eq_nil_of_length_eq_zero (by simpa using hr.1)
    subst hn
    exact ⟨v, w, run_append_of_nil' w base t ty e i i.size ht hi v n xs hown c, by simpa using hown, World.grownBy.refl w _, .inl rfl⟩
  have hl := hr.1
  have hnews : ∀ j u, news[j]? = some u → w.cell? (ad.add j) = some u := by
    intro j u hu
    rcases Nat.eq_zero_or_pos m with h0 | h0
    · subst h0
      have hn : news = [] := List.eq_nil_of_length_eq_zero (by simpa using hr.1)
      subst hn
      simp at hu
    · obtain ⟨ad', h, _, hc⟩ := hr.2 h0
      injection h with h
      subst h
      exact hc j u hu
  have hsmall : n + m ≤ 9223372036854775807 := by simp only [maxLen] at h63; omega
  have hlen : (xs ++ news).length = (n + m) * i.size := by rw [List.length_append, hown.1, hl, Nat.add_mul]
  have grown : ∀ (old : Nat), old < n + m → ∀ (row : Option Nat),
      Own (w.drew.alloc (.cells (xs.toArray ++ news.toArray ++ Builtin.zeroCells z.cells (grownCap w (n + m) old e - (n + m))) e)) base e i.size
        (.slice (some ⟨w.heap.size, 0, none⟩) (n + m) (grownCap w (n + m) old e)) (n + m) (xs ++ news) ∧
      w.grownBy (w.drew.alloc (.cells (xs.toArray ++ news.toArray ++ Builtin.zeroCells z.cells (grownCap w (n + m) old e - (n + m))) e)) row := by
    intro old ho row
    have hge := grownCap_ge w (n + m) old e
    have hcm : grownCap w (n + m) old e ≤ maxLen := grownCap_le_maxLen w (n + m) old e h63
    refine ⟨⟨hlen, .inr ⟨w.heap.size, 0, _, _, rfl, hbase, heap_alloc_new w.drew _, hge, hcm, ?_, ?_⟩⟩, ⟨rfl, rfl, rfl, by simp, fun k hk _ => Below.heap_alloc w.drew _ k hk⟩⟩
    · simp only [Array.size_append, List.size_toArray, size_zeroCells, hzs, hown.1, hl, ← Nat.add_mul]
      rw [Nat.zero_add]
      exact Nat.mul_le_mul_right _ (by omega)
    · simp only [Array.toList_append, List.append_assoc, List.drop_zero]
      rw [← List.append_assoc, ← hlen]
      exact List.take_left
  rcases hown.2 with ⟨rfl, rfl⟩ | ⟨g, o, cap, cur, rfl, hbg, hg, hnc, hcm, hcs, htake⟩
  · have hx : xs = [] := List.eq_nil_of_length_eq_zero (by simpa using hown.1)
    subst hx
    by_cases hm : m = 0
    · subst hm
      have hn : news = [] := List.eq_nil_of_length_eq_zero (by simpa using hl)
      subst hn
      refine ⟨.slice none 0 0, w, ?_, Own.nil w base e i.size, ⟨rfl, rfl, rfl, Nat.le_refl _, fun _ _ _ => rfl⟩, .inl rfl⟩
      simp [Builtin.append_, run_underlying ht, sizeOf, typeInfo, hi, Builtin.lenOf, Builtin.firstCells, loadCells, loadCellsFrom]
    · have hr := run_append_nil (P := P) w t ty e i z ht hi hz ad m c news hl hnews (by omega) (by omega) (by have hb := hbytes; simp only [Nat.zero_add] at hb; omega)
      have hgr := grown 0 (by omega) (Value.ownBlock (.slice none 0 0))
      simp only [Nat.zero_add, List.nil_append, Array.empty_append] at hgr ⊢
      exact ⟨_, _, hr, hgr.1, hgr.2, .inr rfl⟩
  · by_cases hroom : n + m ≤ cap
    · have hnm : n * i.size + m * i.size ≤ cap * i.size := by rw [← Nat.add_mul]; exact Nat.mul_le_mul_right _ hroom
      have hfit : o + n * i.size + news.length ≤ cur.size := by rw [hl]; omega
      have hr := run_append_room' (P := P) w t ty e i ht hi g o n cap cur hg ad m c news hl hnews h1 hroom hfit
      refine ⟨_, _, hr, ⟨hlen, .inr ⟨g, o, cap, _, rfl, hbg, setRow_heap w g cur _ e _ hg, hroom, hcm, ?_, ?_⟩⟩, ⟨rfl, rfl, rfl, by simp, fun k _ hk => setRow_other w g k _ (fun e => hk (by simp [Value.ownBlock, e]))⟩, .inl rfl⟩
      · simp only [List.size_toArray, List.length_append, List.length_take, List.length_drop, Array.length_toList]
        omega
      · rw [← htake]
        show ((List.take (o + n * i.size) cur.toList ++ news ++ List.drop (o + n * i.size + news.length) cur.toList).drop o).take _ = _
        have e1 : cur.toList.take (o + n * i.size) = cur.toList.take o ++ (cur.toList.drop o).take (n * i.size) := by rw [List.take_add]
        have lo : (cur.toList.take o).length = o := by simp; omega
        rw [e1, List.append_assoc, List.append_assoc, List.drop_left' lo, ← List.append_assoc]
        have l2 : ((cur.toList.drop o).take (n * i.size) ++ news).length = (n + m) * i.size := by rw [htake]; exact hlen
        rw [← l2, List.take_left']
        rfl
    · have holds : ∀ j u, xs[j]? = some u → w.cell? ((⟨g, o, none⟩ : Addr).add j) = some u := by
        intro j u hu
        rw [add_lit, Blk.cell hg]
        rw [← htake, List.getElem?_take] at hu
        split at hu
        · simpa using hu
        · cases hu
      have hr := run_append_grow (P := P) w t ty e i z ht hi hz ⟨g, o, none⟩ n cap xs hown.1 holds ad m c news hl hnews (by omega) (by omega) (growslice_fits (by omega) hbytes)
      have hgr := grown cap (by omega) (Value.ownBlock (.slice (some ⟨g, o, none⟩) n cap))
      exact ⟨_, _, hr, hgr.1, hgr.2, .inr rfl⟩

theorem wp_append_mm {o : Oper} {a : Act} {K : Act → World → Prop} {Q : Exit → Act → World → Prop} (s x : Operand) (t : TypeId)
    (ho : o.op = .call { callee := .builtin .append, args := #[s, x], argTypes := #[t, t] })
    (base : Nat) (e : TypeId) (i : TypeInfo) (z : Value) (size bytes : Nat) (ht : P.underlying t = some (.slice e)) (hi : P.info? e = some i) (hz : i.zero = some z)
    (hsize : i.size = size) (hby : i.bytes = bytes) (hzs : z.cells.size = size) (hsz : 0 < size)
    (v : Value) (n : Nat) (xs : List Value) (hs : a.eval s = v) (hown : Own w base e size v n xs)
    (A : Option Addr) (m c : Nat) (news : List Value) (hx : a.eval x = .slice A m c) (hr : Rd w size A m news) (h1 : ∀ u ∈ news, u.oneCell' = true)
    (h63 : n + m ≤ maxLen) (hbytes : (n + m) * bytes ≤ 140737488355328) (hbase : base ≤ w.heap.size)
    (h : ∀ v' w', Own w' base e size v' (n + m) (xs ++ news) → w.grownBy w' v.ownBlock → (v'.ownBlock = v.ownBlock ∨ v'.ownBlock = some w.heap.size) → K (a.put o.dst v') w') : o.wp P a w K Q := by
  obtain ⟨v', w', hrun, h2, h3, h4⟩ := run_append_mm (P := P) w base t o.type e i z size bytes ht hi hz hsize hby hzs hsz v n xs hown A m c news hr h1 h63 hbytes hbase
  unfold Oper.wp execOp
  simp only [ho, resolve, invoke, builtin, Sem.run_bind, Sem.run_pure, Result.andThen_ok, List.map_toArray, List.map_cons, List.map_nil, hs, hx, hrun]
  exact h v' w' h2 h3 h4

theorem step_append_mm {ops : Array Oper} {o : Oper} {a : Act} {K : Act → World → Prop} {Q : Exit → Act → World → Prop} {E : Prop} (hgd : o.guard = none) (s x : Operand) (t : TypeId)
    (ho : o.op = .call { callee := .builtin .append, args := #[s, x], argTypes := #[t, t] })
    (base : Nat) (e : TypeId) (i : TypeInfo) (z : Value) (size bytes : Nat) (ht : P.underlying t = some (.slice e)) (hi : P.info? e = some i) (hz : i.zero = some z)
    (hsize : i.size = size) (hby : i.bytes = bytes) (hzs : z.cells.size = size) (hsz : 0 < size)
    (v : Value) (n : Nat) (xs : List Value) (hs : a.eval s = v) (hown : Own w base e size v n xs)
    (A : Option Addr) (m c : Nat) (news : List Value) (hx : a.eval x = .slice A m c) (hr : Rd w size A m news) (h1 : ∀ u ∈ news, u.oneCell' = true)
    (h63 : n + m ≤ maxLen) (hbytes : (n + m) * bytes ≤ 140737488355328) (hbase : base ≤ w.heap.size)
    (h : ∀ v' w', Own w' base e size v' (n + m) (xs ++ news) → w.grownBy w' v.ownBlock → (v'.ownBlock = v.ownBlock ∨ v'.ownBlock = some w.heap.size) → K (a.put o.dst v') w') :
    if Region.wanted o (yielded ops a.tmps) = true then Oper.wp P o a w K Q else E := by
  have hw : Region.wanted o (yielded ops a.tmps) = true := by simp [Region.wanted, hgd]
  rw [if_pos hw]
  exact wp_append_mm w s x t ho base e i z size bytes ht hi hz hsize hby hzs hsz v n xs hs hown A m c news hx hr h1 h63 hbytes hbase h

theorem wpList_append_mm {ops : Array Oper} {rest : List Oper} {o : Oper} {a : Act} {Q : Exit → Act → World → Prop} (hgd : o.guard = none) (s x : Operand) (t : TypeId)
    (ho : o.op = .call { callee := .builtin .append, args := #[s, x], argTypes := #[t, t] })
    (base : Nat) (e : TypeId) (i : TypeInfo) (z : Value) (size bytes : Nat) (ht : P.underlying t = some (.slice e)) (hi : P.info? e = some i) (hz : i.zero = some z)
    (hsize : i.size = size) (hby : i.bytes = bytes) (hzs : z.cells.size = size) (hsz : 0 < size)
    (v : Value) (n : Nat) (xs : List Value) (hs : a.eval s = v) (hown : Own w base e size v n xs)
    (A : Option Addr) (m c : Nat) (news : List Value) (hx : a.eval x = .slice A m c) (hr : Rd w size A m news) (h1 : ∀ u ∈ news, u.oneCell' = true)
    (h63 : n + m ≤ maxLen) (hbytes : (n + m) * bytes ≤ 140737488355328) (hbase : base ≤ w.heap.size)
    (h : ∀ v' w', Own w' base e size v' (n + m) (xs ++ news) → w.grownBy w' v.ownBlock → (v'.ownBlock = v.ownBlock ∨ v'.ownBlock = some w.heap.size) → wpList P ops Q rest (a.put o.dst v') w') : wpList P ops Q (o :: rest) a w :=
  wpList_plain hgd fun _ hK => wp_append_mm w s x t ho base e i z size bytes ht hi hz hsize hby hzs hsz v n xs hs hown A m c news hx hr h1 h63 hbytes hbase fun v' w' h2 h3 h4 => hK _ _ (h v' w' h2 h3 h4)
end

/-! single operations -/
section
variable {P : Program} {ops : Array Oper} {rest : List Oper} {o : Oper} {a : Act} {w w' : World} {Q : Exit → Act → World → Prop}
/-- an operation whose run is known -/
theorem wpList_val (hgd : o.guard = none) (v : Value) (hrun : (execOp a.eval o).run P w = .ok (.value v) w') (h : wpList P ops Q rest (a.put o.dst v) w') : wpList P ops Q (o :: rest) a w :=
  wpList_plain hgd fun _ hK => by
    unfold Oper.wp
    rw [hrun]
    exact hK _ _ h
theorem wpList_skip (hgd : o.guard = none) (hrun : (execOp a.eval o).run P w = .ok .skip w') (h : wpList P ops Q rest (a.put o.dst undef) w') : wpList P ops Q (o :: rest) a w :=
  wpList_plain hgd fun _ hK => by
    unfold Oper.wp
    rw [hrun]
    exact hK _ _ h

theorem run_loadVar_seg (w : World) (g off : Nat) (t ty : TypeId) (cs : Array Value) (xs : List Value) (d : TypeDesc) (hg : Blk w g t cs)
    (hu : P.underlying ty = some d) (hd : (match d with | .struct _ | .array _ _ => true | _ => false) = true) (hi : (P.info? ty).map (·.size) = some xs.length)
    (hx : ∀ j u, xs[j]? = some u → cs[off + j]? = some u) :
    (loadVar ty ⟨g, off, none⟩).run P w = .ok (.agg xs.toArray) w := by
  have hl : (loadCells ⟨g, off, none⟩ xs.length).run P w = .ok xs.toArray w :=
    run_loadCells_list (P := P) w ⟨g, off, none⟩ xs (fun j v hv => by rw [add_lit, hg.cell]; exact hx j v hv)
  cases hq : P.info? ty with
  | none => simp [hq] at hi
  | some i =>
    have hs : i.size = xs.length := by simpa [hq] using hi
    have hagg : (isAgg ty).run P w = .ok true w := by
      unfold isAgg
      rw [Sem.run_bind, run_underlying hu w]
      cases d <;> simp_all
    simp [loadVar, Sem.run_bind, hagg, sizeOf, typeInfo, hq, hs, hl]

/-- a struct or an array read out of a block, from some place on -/
theorem wpList_load_seg (hgd : o.guard = none) (ty : TypeId) (x : Operand) (ho : o.op = .load ty x)
    (g off : Nat) (hx : a.eval x = .pointer (some ⟨g, off, none⟩)) (t : TypeId) (cs : Array Value) (xs : List Value) (d : TypeDesc) (hg : Blk w g t cs)
    (hu : P.underlying ty = some d) (hd : (match d with | .struct _ | .array _ _ => true | _ => false) = true) (hi : (P.info? ty).map (·.size) = some xs.length)
    (hxs : ∀ j u, xs[j]? = some u → cs[off + j]? = some u)
    (h : wpList P ops Q rest (a.put o.dst (.agg xs.toArray)) w) : wpList P ops Q (o :: rest) a w := by
  refine wpList_val hgd (.agg xs.toArray) ?_ h
  unfold execOp
  simp only [ho, hx, Instr.loadAt, Instr.sureAddr, Sem.run_bind, Sem.run_pure, Result.andThen_ok, run_loadVar_seg w g off t ty cs xs d hg hu hd hi hxs]

def splice (cs : Array Value) (off : Nat) (vs : List Value) : Array Value := (cs.toList.take off ++ vs ++ cs.toList.drop (off + vs.length)).toArray
theorem splice_size {cs : Array Value} {off : Nat} {vs : List Value} (h : off + vs.length ≤ cs.size) : (splice cs off vs).size = cs.size := by
  simp [splice]; omega
theorem splice_in {cs : Array Value} {off : Nat} {vs : List Value} (h : off + vs.length ≤ cs.size) (j : Nat) (hj : j < vs.length) : (splice cs off vs)[off + j]? = vs[j]? := by
  have h1 : (cs.toList.take off).length = off := by simp; omega
  simp only [splice, List.getElem?_toArray]
  rw [List.append_assoc, List.getElem?_append_right (by omega), h1, List.getElem?_append_left (by omega)]
  congr 1; omega
theorem splice_out {cs : Array Value} {off : Nat} {vs : List Value} (h : off + vs.length ≤ cs.size) (j : Nat) (hj : j < off ∨ off + vs.length ≤ j) : (splice cs off vs)[j]? = cs[j]? := by
  have h1 : (cs.toList.take off).length = off := by simp; omega
  simp only [splice, List.getElem?_toArray]
  rcases hj with hj | hj
  · rw [List.append_assoc, List.getElem?_append_left (by omega), List.getElem?_take, if_pos hj]; simp
  · rw [List.getElem?_append_right (by simp; omega), List.getElem?_drop]
    simp only [List.length_append, h1]
    rw [show off + vs.length + (j - (off + vs.length)) = j by omega]; simp
theorem splice_all {cs : Array Value} {vs : List Value} (h : vs.length = cs.size) : splice cs 0 vs = vs.toArray := by
  simp [splice, h]

theorem run_store_seg (w : World) (g off : Nat) (t ty : TypeId) (cs vs : Array Value) (hg : Blk w g t cs) (hi : (P.info? ty).map (·.size) = some vs.size) (hv : ∀ v ∈ vs.toList, v.oneCell' = true) (hf : off + vs.size ≤ cs.size) :
    (storeVar ty ⟨g, off, none⟩ (.agg vs)).run P w = .ok () (w.setRow g (splice cs off vs.toList)) := by
  have hst := run_storeCells_at P g off t vs.toList 0 cs w hg (by simpa using hf) hv
  cases hq : P.info? ty with
  | none => simp [hq] at hi
  | some i =>
    have hs : i.size = vs.size := by simpa [hq] using hi
    simp only [Nat.add_zero] at hst
    simp [storeVar, Value.cells, sizeOf, typeInfo, hq, hs, hst, splice]

/-- a struct or an array stored into a block, from some place on -/
theorem wpList_store_seg (hgd : o.guard = none) (ty : TypeId) (x y : Operand) (ho : o.op = .store ty x y)
    (g off : Nat) (hx : a.eval x = .pointer (some ⟨g, off, none⟩)) (vs : Array Value) (hy : a.eval y = .agg vs) (t : TypeId) (cs : Array Value) (hg : Blk w g t cs)
    (hi : (P.info? ty).map (·.size) = some vs.size) (hv : ∀ v ∈ vs.toList, v.oneCell' = true) (hf : off + vs.size ≤ cs.size)
    (h : ∀ w', Blk w' g t (splice cs off vs.toList) → Chg [g] w w' → wpList P ops Q rest (a.put o.dst undef) w') : wpList P ops Q (o :: rest) a w := by
  refine wpList_skip hgd (w' := w.setRow g (splice cs off vs.toList)) ?_ (h _ (setRow_heap w g cs _ t _ hg) ⟨rfl, rfl, rfl, by simp, fun k _ hk => setRow_other w g k _ (by simpa using hk)⟩)
  unfold execOp
  simp only [ho, hx, hy, Instr.storeAt, Instr.sureAddr, Sem.run_bind, Sem.run_pure, Result.andThen_ok, run_store_seg w g off t ty cs vs hg hi hv hf]

/-- a call met by a contract whose value is known -/
theorem wpList_call (hgd : o.guard = none) (f : FuncId) (args : Array Value) (hrun : (execOp a.eval o).run P w = .ok (.enter f args) w) {V : Value} {S : World → Prop}
    (hc : Calls P f args w fun e w' => e = .returned V ∧ S w') (h : ∀ w', S w' → wpList P ops Q rest (a.put o.dst V) w') : wpList P ops Q (o :: rest) a w :=
  wpList_plain hgd fun _ hK => by
    unfold Oper.wp
    rw [hrun]
    exact hc.mono fun e w' ⟨he, hs⟩ => by subst he; exact hK _ _ (h w' hs)
/-- a call met by a contract whose value is not -/
theorem wpList_call_ex (hgd : o.guard = none) (f : FuncId) (args : Array Value) (hrun : (execOp a.eval o).run P w = .ok (.enter f args) w) {S : Value → World → Prop}
    (hc : Calls P f args w fun e w' => ∃ v, e = .returned v ∧ S v w') (h : ∀ v w', S v w' → wpList P ops Q rest (a.put o.dst v) w') : wpList P ops Q (o :: rest) a w :=
  wpList_plain hgd fun _ hK => by
    unfold Oper.wp
    rw [hrun]
    exact hc.mono fun e w' ⟨v, he, hs⟩ => by subst he; exact hK _ _ (h v w' hs)
/-- one cell stored into a block -/
theorem wpList_store_cell (hgd : o.guard = none) (ty : TypeId) (x y : Operand) (ho : o.op = .store ty x y)
    (g off : Nat) (hx : a.eval x = .pointer (some ⟨g, off, none⟩)) (v : Value) (hy : a.eval y = v) (hv : v.oneCell' = true) (t : TypeId) (cs : Array Value) (hg : Blk w g t cs)
    (hi : (P.info? ty).map (·.size) = some 1) (hf : off < cs.size)
    (h : ∀ w', Blk w' g t (cs.setIfInBounds off v) → Chg [g] w w' → wpList P ops Q rest (a.put o.dst undef) w') : wpList P ops Q (o :: rest) a w := by
  have hrun : (storeVar ty ⟨g, off, none⟩ v).run P w = .ok () (w.setRow g (splice cs off [v])) := by
    have hst := run_storeCells_at P g off t [v] 0 cs w hg (by simp; omega) (by simpa using hv)
    have hc : v.cells = #[v] := by cases v <;> simp_all [Value.cells, Value.oneCell']
    cases hq : P.info? ty with
    | none => simp [hq] at hi
    | some i =>
      have hs : i.size = 1 := by simpa [hq] using hi
      simp only [Nat.add_zero] at hst
      simp [storeVar, hc, sizeOf, typeInfo, hq, hs, hst, splice]
  have e : splice cs off [v] = cs.setIfInBounds off v := by
    apply Array.ext_getElem?
    intro j
    by_cases hj : j = off
    · subst hj
      have := splice_in (cs := cs) (vs := [v]) (off := j) (by simp; omega) 0 (by simp)
      rw [Nat.add_zero] at this
      rw [this]; simp [hf]
    · rw [splice_out (by simp; omega) j (by simp; omega), Array.getElem?_setIfInBounds, if_neg (fun e => hj e.symm)]
  refine wpList_skip hgd (w' := w.setRow g (cs.setIfInBounds off v)) ?_ (h _ (setRow_heap w g cs _ t _ hg) ⟨rfl, rfl, rfl, by simp, fun k _ hk => setRow_other w g k _ (by simpa using hk)⟩)
  unfold execOp
  simp only [ho, hx, hy, Instr.storeAt, Instr.sureAddr, Sem.run_bind, Sem.run_pure, Result.andThen_ok, hrun, e]

/-! the same, at operations written out: an arm of the walk fails at once where the operation is another -/
variable {d : Option Tmp} {ty0 : TypeId} {ps : String} {af : Array Edge}
theorem at_alloc (t : TypeId) (cs : Array Value) (hz : ((P.info? t).bind (·.zero)).map (·.cells) = some cs)
    (h : ∀ w', Blk w' w.heap.size t cs → Chg [] w w' → w'.heap.size = w.heap.size + 1 → wpList P ops Q rest (a.put d (.pointer (some ⟨w.heap.size, 0, none⟩))) w') :
    wpList P ops Q ({ dst := d, op := .alloc t, type := ty0, pos := ps, after := af, guard := none } :: rest) a w := by
  refine wpList_val rfl (w' := w.alloc (.cells cs t)) (.pointer (some ⟨w.heap.size, 0, none⟩)) ?_ (h _ (Blk.new w t cs) ((Chg.refl [] w).alloc _) (by simp))
  cases hi : P.info? t with
  | none => simp [hi] at hz
  | some i =>
    cases hzz : i.zero with
    | none => simp [hi, hzz] at hz
    | some z =>
      have hcs : z.cells = cs := by simpa [hi, hzz] using hz
      simp [execOp, Instr.alloc, zeroValue, typeInfo, hi, hzz, newVar, newRow, hcs]
theorem at_val {op : Op} (v : Value) (hrun : (execOp a.eval { dst := d, op := op, type := ty0, pos := ps, after := af, guard := none }).run P w = .ok (.value v) w)
    (h : wpList P ops Q rest (a.put d v) w) : wpList P ops Q ({ dst := d, op := op, type := ty0, pos := ps, after := af, guard := none } :: rest) a w := wpList_val rfl v hrun h
theorem at_store_seg (ty : TypeId) (x y : Operand)
    (g off : Nat) (hx : a.eval x = .pointer (some ⟨g, off, none⟩)) (vs : Array Value) (hy : a.eval y = .agg vs) (t : TypeId) (cs : Array Value) (hg : Blk w g t cs)
    (hi : (P.info? ty).map (·.size) = some vs.size) (hv : ∀ v ∈ vs.toList, v.oneCell' = true) (hf : off + vs.size ≤ cs.size)
    (h : ∀ w', Blk w' g t (splice cs off vs.toList) → Chg [g] w w' → wpList P ops Q rest (a.put d undef) w') :
    wpList P ops Q ({ dst := d, op := .store ty x y, type := ty0, pos := ps, after := af, guard := none } :: rest) a w := wpList_store_seg rfl ty x y rfl g off hx vs hy t cs hg hi hv hf h
theorem at_store_cell (ty : TypeId) (x y : Operand)
    (g off : Nat) (hx : a.eval x = .pointer (some ⟨g, off, none⟩)) (v : Value) (hy : a.eval y = v) (hv : v.oneCell' = true) (t : TypeId) (cs : Array Value) (hg : Blk w g t cs)
    (hi : (P.info? ty).map (·.size) = some 1) (hf : off < cs.size)
    (h : ∀ w', Blk w' g t (cs.setIfInBounds off v) → Chg [g] w w' → wpList P ops Q rest (a.put d undef) w') :
    wpList P ops Q ({ dst := d, op := .store ty x y, type := ty0, pos := ps, after := af, guard := none } :: rest) a w := wpList_store_cell rfl ty x y rfl g off hx v hy hv t cs hg hi hf h
theorem at_load_seg (ty : TypeId) (x : Operand)
    (g off : Nat) (hx : a.eval x = .pointer (some ⟨g, off, none⟩)) (t : TypeId) (cs : Array Value) (xs : List Value) (dd : TypeDesc) (hg : Blk w g t cs)
    (hu : P.underlying ty = some dd) (hd : (match dd with | .struct _ | .array _ _ => true | _ => false) = true) (hi : (P.info? ty).map (·.size) = some xs.length)
    (hxs : ∀ j u, xs[j]? = some u → cs[off + j]? = some u)
    (h : wpList P ops Q rest (a.put d (.agg xs.toArray)) w) :
    wpList P ops Q ({ dst := d, op := .load ty x, type := ty0, pos := ps, after := af, guard := none } :: rest) a w := wpList_load_seg rfl ty x rfl g off hx t cs xs dd hg hu hd hi hxs h
theorem at_call_known (c : Call) (f : FuncId) (args : Array Value) (hrun : (execOp a.eval { dst := d, op := .call c, type := ty0, pos := ps, after := af, guard := none }).run P w = .ok (.enter f args) w) {V : Value} {S : World → Prop}
    (hc : Calls P f args w fun e w' => e = .returned V ∧ S w') (h : ∀ w', S w' → wpList P ops Q rest (a.put d V) w') :
    wpList P ops Q ({ dst := d, op := .call c, type := ty0, pos := ps, after := af, guard := none } :: rest) a w := wpList_call rfl f args hrun hc h

/-- a region that draws its order: quiet operations, then a forced tail; the world is that behind the draw -/
theorem still_tail {id : Nat} {l : List Oper} (n : Nat) (hm : P.follows .mixedOrders = true) (hB : Region.lexTailB .any l.toArray n = true)
    (h : wpStill P l.toArray w.drew (fun a' => wpList P l.toArray Q (l.drop n) a' w.drew) (l.take n) a) : (Code.region id l.toArray true).wp P Q a w :=
  wp_region_still_tail n hm hB h

/-- a struct or an array read out of a block, from some place on (the cells written out) -/
theorem at_load_lit (ty : TypeId) (x : Operand)
    (g off : Nat) (hx : a.eval x = .pointer (some ⟨g, off, none⟩)) (t : TypeId) (cs : Array Value) (xs : List Value) (dd : TypeDesc) (hg : Blk w g t cs)
    (hu : P.underlying ty = some dd) (hd : (match dd with | .struct _ | .array _ _ => true | _ => false) = true) (hi : (P.info? ty).map (·.size) = some xs.length)
    (hxs : (cs.toList.drop off).take xs.length = xs)
    (h : wpList P ops Q rest (a.put d (.agg xs.toArray)) w) :
    wpList P ops Q ({ dst := d, op := .load ty x, type := ty0, pos := ps, after := af, guard := none } :: rest) a w :=
  at_load_seg ty x g off hx t cs xs dd hg hu hd hi (fun j u hu => by
    rw [← hxs, List.getElem?_take] at hu
    split at hu
    · simpa using hu
    · cases hu) h

theorem at_build {parts : Array (Nat × Operand)} (t : TypeId) (v : Value) (hrun : (execOp a.eval { dst := d, op := .build t parts, type := ty0, pos := ps, after := af, guard := none }).run P w = .ok (.value v) w)
    (h : wpList P ops Q rest (a.put d v) w) : wpList P ops Q ({ dst := d, op := .build t parts, type := ty0, pos := ps, after := af, guard := none } :: rest) a w := wpList_val rfl v hrun h
end
end Go.Mm
