/- The Merkle tree in plain Lean. -/
set_option linter.unusedVariables false
set_option linter.unusedSimpArgs false
namespace Merk
variable (H : List Int → List Int)

/-- the greatest power of two below n (n at least 2) -/
def hp (n : Nat) : Nat := 2 ^ Nat.log2 (n - 1)

theorem hp_lt {n : Nat} (h : 2 ≤ n) : hp n < n := by
  have := Nat.log2_self_le (n := n - 1) (by omega)
  unfold hp; omega
theorem hp_ge {n : Nat} (h : 2 ≤ n) : n ≤ 2 * hp n := by
  have := Nat.lt_log2_self (n := n - 1)
  unfold hp; rw [Nat.pow_succ] at this; omega
theorem hp_pos (n : Nat) : 0 < hp n := Nat.pow_pos (by omega)

theorem pow_unique {i j n : Nat} (h1 : 2 ^ i < n) (h2 : n ≤ 2 * 2 ^ i) (h3 : 2 ^ j < n) (h4 : n ≤ 2 * 2 ^ j) : i = j := by
  rcases Nat.lt_trichotomy i j with h | h | h
  · have := Nat.pow_le_pow_right (n := 2) (by omega) (show i + 1 ≤ j from h)
    rw [Nat.pow_succ] at this; omega
  · exact h
  · have := Nat.pow_le_pow_right (n := 2) (by omega) (show j + 1 ≤ i from h)
    rw [Nat.pow_succ] at this; omega

theorem hp_eq {n j : Nat} (h1 : 2 ^ j < n) (h2 : n ≤ 2 * 2 ^ j) : hp n = 2 ^ j := by
  have hn : 2 ≤ n := by have := Nat.pow_pos (n := j) (show 0 < 2 by omega); omega
  have := pow_unique (hp_lt hn) (hp_ge hn) h1 h2
  unfold hp; rw [this]

/-- the root of a tree over leaves -/
def mroot (l : List (List Int)) : List Int :=
  if l.length = 0 then [] else
  if l.length = 1 then H (l.headD []) else
  H (mroot (l.take (hp l.length)) ++ mroot (l.drop (hp l.length)))
  termination_by l.length
  decreasing_by
  · have := hp_lt (n := l.length) (by omega); simp; omega
  · have := hp_pos l.length; simp; omega

theorem mroot_nil : mroot H [] = [] := by rw [mroot]; simp
theorem mroot_one (x : List Int) : mroot H [x] = H x := by rw [mroot]; simp
theorem mroot_split (l : List (List Int)) (h : 2 ≤ l.length) : mroot H l = H (mroot H (l.take (hp l.length)) ++ mroot H (l.drop (hp l.length))) := by
  rw [mroot, if_neg (by omega), if_neg (by omega)]

theorem mroot_append {a b : List (List Int)} {j : Nat} (ha : a.length = 2 ^ j) (h1 : 1 ≤ b.length) (h2 : b.length ≤ 2 ^ j) :
    mroot H (a ++ b) = H (mroot H a ++ mroot H b) := by
  have hp' : hp (a ++ b).length = 2 ^ j := hp_eq (by simp; omega) (by simp; omega)
  have := Nat.pow_pos (n := j) (show 0 < 2 by omega)
  rw [mroot_split H _ (by simp; omega), hp', ← ha]
  simp

abbrev Stk := List (Nat × List Int)

def joinAll : Nat → List Int → Stk → Stk
  | h, s, [] => [(h, s)]
  | h, s, (h', s') :: r => if h = h' then joinAll (h + 1) (H (s' ++ s)) r else (h, s) :: (h', s') :: r

def push (k : Stk) (x : List Int) : Stk := joinAll H 0 (H x) k

def rootFrom (cur : List Int) : Stk → List Int
  | [] => cur
  | p :: r => rootFrom (H (p.2 ++ cur)) r

def rootOf : Stk → List Int
  | [] => []
  | (_, s) :: r => rootFrom H s r

/-- the stack holds the leaves l, in perfect trees that grow toward its end -/
def Inv : Stk → List (List Int) → Prop
  | [], l => l = []
  | (h, s) :: r, l => ∃ a c, l = a ++ c ∧ c.length = 2 ^ h ∧ s = mroot H c ∧ Inv r a ∧ ∀ p, r.head? = some p → h < p.1

theorem joinAll_inv (k : Stk) : ∀ (h : Nat) (s : List Int) (a c : List (List Int)), c.length = 2 ^ h → s = mroot H c → Inv H k a → (∀ p, k.head? = some p → h ≤ p.1) →
    Inv H (joinAll H h s k) (a ++ c) := by
  induction k with
  | nil => intro h s a c hc hs hk _; exact ⟨a, c, rfl, hc, hs, hk, by simp⟩
  | cons p r ih =>
    obtain ⟨h', s'⟩ := p
    intro h s a c hc hs hk hle
    unfold joinAll
    split
    · rename_i he
      subst he
      obtain ⟨a', c', rfl, hc', hs', hr, hhead⟩ := hk
      have hpos := Nat.pow_pos (n := h) (show 0 < 2 by omega)
      rw [List.append_assoc]
      refine ih (h + 1) _ a' (c' ++ c) ?_ ?_ hr ?_
      · rw [List.length_append, hc, hc', Nat.pow_succ]; omega
      · rw [mroot_append H hc' (by omega) (by omega), hs, hs']
      · intro p hp; exact hhead p hp
    · rename_i hne
      refine ⟨a, c, rfl, hc, hs, hk, ?_⟩
      intro p hp
      have := hle p hp
      simp at hp
      subst hp
      simp at this ⊢
      omega

theorem push_inv {k : Stk} {l : List (List Int)} (x : List Int) (h : Inv H k l) : Inv H (push H k x) (l ++ [x]) :=
  joinAll_inv H k 0 (H x) l [x] rfl (mroot_one H x).symm h (fun _ _ => Nat.zero_le _)

/-- the leaves that lie beneath a stack are fewer than the next tree has -/
theorem inv_len (k : Stk) : ∀ (l : List (List Int)) , Inv H k l → ∀ p, k.head? = some p → 2 ^ p.1 ≤ l.length := by
  intro l h p hp
  cases k with
  | nil => simp at hp
  | cons q r =>
    simp at hp; subst hp
    obtain ⟨a, c, rfl, hc, _⟩ := h
    simp; omega

theorem rootFrom_inv (k : Stk) : ∀ (cur : List Int) (a c : List (List Int)), Inv H k a → cur = mroot H c → 1 ≤ c.length → (∀ p, k.head? = some p → c.length ≤ 2 ^ p.1) →
    rootFrom H cur k = mroot H (a ++ c) := by
  induction k with
  | nil => intro cur a c h hc _ _; simp [Inv] at h; subst h; simp [rootFrom, hc]
  | cons p r ih =>
    obtain ⟨h', s'⟩ := p
    intro cur a c h hc h1 hle
    obtain ⟨a', c', rfl, hc', hs', hr, hhead⟩ := h
    have hle' : c.length ≤ 2 ^ h' := hle (h', s') rfl
    simp only [rootFrom]
    rw [List.append_assoc]
    refine ih _ a' (c' ++ c) hr ?_ (by simp; omega) ?_
    · rw [mroot_append H hc' h1 hle', hc, hs']
    · intro q hq
      have h2 := hhead q hq
      have h2 : h' < q.1 := h2
      have := Nat.pow_le_pow_right (n := 2) (by omega) (show h' + 1 ≤ q.1 from h2)
      rw [Nat.pow_succ] at this
      simp only [List.length_append]
      omega

theorem rootOf_inv {k : Stk} {l : List (List Int)} (h : Inv H k l) : rootOf H k = mroot H l := by
  cases k with
  | nil => simp [Inv] at h; subst h; simp [rootOf, mroot_nil]
  | cons p r =>
    obtain ⟨h', s⟩ := p
    obtain ⟨a, c, rfl, hc, hs, hr, hhead⟩ := h
    have hpos := Nat.pow_pos (n := h') (show 0 < 2 by omega)
    refine rootFrom_inv H r s a c hr hs (by omega) ?_
    intro q hq
    have := Nat.pow_le_pow_right (n := 2) (by omega) (Nat.le_of_lt (hhead q hq))
    omega

/-- the roots beside a leaf's way, from the bottom on -/
def mpath (l : List (List Int)) (i : Nat) : List (List Int) :=
  if l.length ≤ 1 then [] else
  if i < hp l.length then mpath (l.take (hp l.length)) i ++ [mroot H (l.drop (hp l.length))]
  else mpath (l.drop (hp l.length)) (i - hp l.length) ++ [mroot H (l.take (hp l.length))]
  termination_by l.length
  decreasing_by
  · have := hp_lt (n := l.length) (by omega); simp; omega
  · have := hp_pos l.length; simp; omega

theorem mpath_one {l : List (List Int)} (h : l.length ≤ 1) (i : Nat) : mpath H l i = [] := by rw [mpath, if_pos h]

theorem mpath_left {a b : List (List Int)} {j i : Nat} (ha : a.length = 2 ^ j) (h1 : 1 ≤ b.length) (h2 : b.length ≤ 2 ^ j) (hi : i < a.length) :
    mpath H (a ++ b) i = mpath H a i ++ [mroot H b] := by
  have hp' : hp (a ++ b).length = 2 ^ j := hp_eq (by simp; omega) (by simp; omega)
  rw [mpath, if_neg (by simp; omega), hp', ← ha, if_pos hi]
  simp

theorem mpath_right {a b : List (List Int)} {j i : Nat} (ha : a.length = 2 ^ j) (h1 : 1 ≤ b.length) (h2 : b.length ≤ 2 ^ j) (hi : a.length ≤ i) :
    mpath H (a ++ b) i = mpath H b (i - a.length) ++ [mroot H a] := by
  have hp' : hp (a ++ b).length = 2 ^ j := hp_eq (by simp; omega) (by simp; omega)
  have := Nat.pow_pos (n := j) (show 0 < 2 by omega)
  rw [mpath, if_neg (by simp; omega), hp', ← ha, if_neg (by omega)]
  simp

theorem mpath_len (j : Nat) : ∀ (c : List (List Int)) (i : Nat), c.length = 2 ^ j → i < c.length → (mpath H c i).length = j := by
  induction j with
  | zero => intro c i hc _; rw [mpath_one H (by omega)]; rfl
  | succ j ih =>
    intro c i hc hi
    rw [Nat.pow_succ] at hc
    have e : c = c.take (2 ^ j) ++ c.drop (2 ^ j) := (List.take_append_drop _ _).symm
    have l1 : (c.take (2 ^ j)).length = 2 ^ j := by simp; omega
    have l2 : (c.drop (2 ^ j)).length = 2 ^ j := by simp; omega
    have hpos := Nat.pow_pos (n := j) (show 0 < 2 by omega)
    rw [e]
    by_cases h : i < 2 ^ j
    · rw [mpath_left H l1 (by omega) (by omega) (by omega), List.length_append, ih _ _ l1 (by omega)]; rfl
    · rw [mpath_right H l1 (by omega) (by omega) (by omega), List.length_append, ih _ _ l2 (by omega)]; rfl

/-- joining, beside it the set of a proof: idx the leaf's place, n the number of leaves before the last one -/
def joinAllP (idx n : Nat) : Nat → List Int → Stk → List (List Int) → Stk × List (List Int)
  | h, s, [], ps => ([(h, s)], ps)
  | h, s, (h', s') :: r, ps =>
    if h = h' then joinAllP idx n (h + 1) (H (s' ++ s)) r (if ps.length = h + 1 then (if idx < n / 2 ^ h * 2 ^ h then ps ++ [s] else ps ++ [s']) else ps)
    else ((h, s) :: (h', s') :: r, ps)

theorem joinAllP_fst (idx n : Nat) (k : Stk) : ∀ h s ps, (joinAllP H idx n h s k ps).1 = joinAll H h s k := by
  induction k with
  | nil => intro h s ps; rfl
  | cons p r ih =>
    obtain ⟨h', s'⟩ := p
    intro h s ps
    unfold joinAllP joinAll
    split
    · exact ih _ _ _
    · rfl

def PSet (idx : Nat) : Stk → List (List Int) → List (List Int) → Prop
  | [], _, ps => ps = []
  | (h, _) :: r, l, ps =>
    if idx < l.length - 2 ^ h then PSet idx r (l.take (l.length - 2 ^ h)) ps
    else if idx < l.length then ps = l.getD idx [] :: mpath H (l.drop (l.length - 2 ^ h)) (idx - (l.length - 2 ^ h)) else ps = []

theorem PSet_cons {idx h : Nat} {s : List Int} {r : Stk} {a c ps : List (List Int)} (hc : c.length = 2 ^ h) :
    PSet H idx ((h, s) :: r) (a ++ c) ps ↔
      (if idx < a.length then PSet H idx r a ps
       else if idx < a.length + c.length then ps = c.getD (idx - a.length) [] :: mpath H c (idx - a.length) else ps = []) := by
  have e : (a ++ c).length - 2 ^ h = a.length := by simp; omega
  simp only [PSet]
  rw [e]
  by_cases h1 : idx < a.length
  · rw [if_pos h1, if_pos h1, List.take_left' rfl]
  · rw [if_neg h1, if_neg h1]
    by_cases h2 : idx < a.length + c.length
    · rw [if_pos (by simpa using h2), if_pos h2]
      rw [List.getD_eq_getElem?_getD, List.getElem?_append_right (by omega), ← List.getD_eq_getElem?_getD]
      simp
    · rw [if_neg (by simpa using h2), if_neg h2]

/-- every tree that lies beneath is higher -/
theorem inv_heights (k : Stk) : ∀ (l : List (List Int)) (m : Nat), Inv H k l → (∀ p, k.head? = some p → m ≤ p.1) → ∀ q ∈ k, m ≤ q.1 := by
  induction k with
  | nil => intro l m _ _ q hq; simp at hq
  | cons p r ih =>
    obtain ⟨h', s'⟩ := p
    intro l m hk hm q hq
    obtain ⟨a, c, rfl, hc, hs, hr, hh⟩ := hk
    have h0 : m ≤ h' := hm _ rfl
    rcases List.mem_cons.1 hq with rfl | hq
    · exact h0
    · exact ih a m hr (fun p hp => by have := hh p hp; omega) q hq

theorem inv_dvd (k : Stk) : ∀ (l : List (List Int)) (m : Nat), Inv H k l → (∀ p, k.head? = some p → m ≤ p.1) → 2 ^ m ∣ l.length := by
  induction k with
  | nil => intro l m hk _; simp [Inv] at hk; subst hk; simp
  | cons p r ih =>
    obtain ⟨h', s'⟩ := p
    intro l m hk hm
    obtain ⟨a, c, rfl, hc, hs, hr, hh⟩ := hk
    have h0 : m ≤ h' := hm _ rfl
    rw [List.length_append, hc]
    exact Nat.dvd_add (ih a m hr (fun p hp => by have := hh p hp; omega)) (Nat.pow_dvd_pow 2 h0)

theorem PSet_len {idx : Nat} (k : Stk) : ∀ (l ps : List (List Int)), Inv H k l → PSet H idx k l ps → ps = [] ∨ ∃ q ∈ k, ps.length = q.1 + 1 := by
  induction k with
  | nil => intro l ps _ h; exact .inl h
  | cons p r ih =>
    obtain ⟨h', s'⟩ := p
    intro l ps hk h
    obtain ⟨a, c, rfl, hc, hs, hr, hh⟩ := hk
    rw [PSet_cons H hc] at h
    split at h
    · rcases ih a ps hr h with h0 | ⟨q, hq, e⟩
      · exact .inl h0
      · exact .inr ⟨q, List.mem_cons_of_mem _ hq, e⟩
    · split at h
      · right
        refine ⟨_, List.mem_cons_self, ?_⟩
        rw [h, List.length_cons, mpath_len H h' c _ hc (by omega)]
      · exact .inl h

theorem joinAllP_set (idx n : Nat) (k : Stk) : ∀ (h : Nat) (s : List Int) (a c ps : List (List Int)), c.length = 2 ^ h → s = mroot H c → Inv H k a → (∀ p, k.head? = some p → h ≤ p.1) →
    n + 1 = a.length + c.length → PSet H idx ((h, s) :: k) (a ++ c) ps →
    PSet H idx (joinAllP H idx n h s k ps).1 (a ++ c) (joinAllP H idx n h s k ps).2 := by
  induction k with
  | nil => intro h s a c ps hc hs hk _ _ hps; exact hps
  | cons p r ih =>
    obtain ⟨h', s'⟩ := p
    intro h s a c ps hc hs hk hle hn hps
    unfold joinAllP
    split
    · rename_i he
      subst he
      have hdv := inv_dvd H _ a h hk hle
      obtain ⟨a', c', rfl, hc', hs', hr, hhead⟩ := hk
      have hpos := Nat.pow_pos (n := h) (show 0 < 2 by omega)
      have hcc : (c' ++ c).length = 2 ^ (h + 1) := by rw [List.length_append, hc, hc', Nat.pow_succ]; omega
      have hmid : n / 2 ^ h * 2 ^ h = (a' ++ c').length := by
        obtain ⟨t, ht⟩ := hdv
        have : n / 2 ^ h = t := by
          have e1 : n = (2 ^ h - 1) + 2 ^ h * t := by omega
          rw [e1, Nat.add_mul_div_left _ _ hpos, Nat.div_eq_of_lt (by omega)]; omega
        rw [this, ht, Nat.mul_comm]
      rw [List.append_assoc]
      refine ih (h + 1) _ a' (c' ++ c) _ hcc (by rw [mroot_append H hc' (by omega) (by omega), hs, hs']) hr (fun p hp => hhead p hp) (by simp at hn ⊢; omega) ?_
      rw [PSet_cons H hcc]
      rw [PSet_cons H hc] at hps
      rw [hmid]
      by_cases g1 : idx < a'.length
      · rw [if_pos (by simp; omega), PSet_cons H hc', if_pos g1] at hps
        rw [if_pos g1]
        have hl : ¬ ps.length = h + 1 := by
          rcases PSet_len H r a' ps hr hps with h0 | ⟨q, hq, e⟩
          · rw [h0]; simp
          · have := inv_heights H r a' (h + 1) hr (fun p hp => hhead p hp) q hq
            omega
        rw [if_neg hl]; exact hps
      · rw [if_neg g1]
        by_cases g2 : idx < a'.length + c'.length
        · rw [if_pos (by simp; omega), PSet_cons H hc', if_neg g1, if_pos g2] at hps
          rw [if_pos (by simp; omega)]
          have hl : ps.length = h + 1 := by rw [hps, List.length_cons, mpath_len H h c' _ hc' (by omega)]
          rw [if_pos hl, if_pos (by simp; omega), hps, hs, mpath_left H hc' (by omega) (by omega) (by omega)]
          rw [List.getD_eq_getElem?_getD, List.getD_eq_getElem?_getD, List.getElem?_append_left (by omega)]
          simp
        · by_cases g3 : idx < a'.length + c'.length + c.length
          · rw [if_neg (by simp; omega), if_pos (by simp; omega)] at hps
            rw [if_pos (by simp; omega)]
            have e2 : idx - (a' ++ c').length = idx - a'.length - c'.length := by simp; omega
            rw [e2] at hps
            have hl : ps.length = h + 1 := by rw [hps, List.length_cons, mpath_len H h c _ hc (by omega)]
            rw [if_pos hl, if_neg (by simp; omega), hps, hs', mpath_right H hc' (by omega) (by omega) (by omega)]
            rw [List.getD_eq_getElem?_getD, List.getD_eq_getElem?_getD, List.getElem?_append_right (by omega)]
            simp
          · rw [if_neg (by simp; omega), if_neg (by simp; omega)] at hps
            rw [if_neg (by simp; omega), hps]
            simp
    · exact hps

/-- one leaf more -/
def pushP (idx n : Nat) (k : Stk) (ps : List (List Int)) (x : List Int) : Stk × List (List Int) :=
  joinAllP H idx n 0 (H x) k (if n = idx then ps ++ [x] else ps)

theorem pushP_fst (idx n : Nat) (k : Stk) (ps : List (List Int)) (x : List Int) : (pushP H idx n k ps x).1 = push H k x := joinAllP_fst H idx n k 0 (H x) _

theorem pushP_set {idx : Nat} {k : Stk} {l ps : List (List Int)} (x : List Int) (hk : Inv H k l) (h : PSet H idx k l ps) :
    PSet H idx (pushP H idx l.length k ps x).1 (l ++ [x]) (pushP H idx l.length k ps x).2 := by
  refine joinAllP_set H idx l.length k 0 (H x) l [x] _ rfl (mroot_one H x).symm hk (fun _ _ => Nat.zero_le _) rfl ?_
  rw [PSet_cons H rfl]
  have hnil : l.length ≤ idx → ps = [] := by
    intro hle
    cases k with
    | nil => exact h
    | cons p r =>
      obtain ⟨h', s'⟩ := p
      obtain ⟨a, c, rfl, hc, _⟩ := hk
      rw [PSet_cons H hc, if_neg (by simp at hle; omega), if_neg (by simp at hle; omega)] at h
      exact h
  by_cases g1 : idx < l.length
  · rw [if_pos g1, if_neg (by omega)]; exact h
  · rw [if_neg g1]
    by_cases g2 : idx < l.length + [x].length
    · have e : l.length = idx := by simp at g2; omega
      rw [if_pos g2, if_pos e, hnil (by omega), mpath_one H (by simp)]
      simp [e]
    · rw [if_neg g2, if_neg (by simp at g2; omega), hnil (by omega)]

/-- what Prove makes of the stack and the set -/
def collapse (L : Nat) : List Int → Stk → List Int × Stk
  | cur, [] => (cur, [])
  | cur, (h', s') :: r => if h' + 1 < L then collapse L (H (s' ++ cur)) r else (cur, (h', s') :: r)

def finish (ps : List (List Int)) : List Int × Stk → List (List Int)
  | (_, []) => ps
  | (cur, (h', s') :: r) => if h' + 1 = ps.length then ps ++ [cur] ++ r.map (·.2) else ps ++ ((h', s') :: r).map (·.2)

def prove (ps : List (List Int)) : Stk → List (List Int)
  | [] => []
  | (_, s) :: r => if ps.length = 0 then [] else finish ps (collapse H ps.length s r)

theorem PSet_nil_false {idx : Nat} (k : Stk) : ∀ (a : List (List Int)), Inv H k a → idx < a.length → PSet H idx k a [] → False := by
  induction k with
  | nil => intro a hk hi _; simp [Inv] at hk; subst hk; simp at hi
  | cons p r ih =>
    obtain ⟨h', s'⟩ := p
    intro a' hk hi hp
    obtain ⟨a, c, rfl, hc, hs, hr, hh⟩ := hk
    rw [PSet_cons H hc] at hp
    split at hp
    · exact ih a hr (by assumption) hp
    · rw [if_pos (by simpa using hi)] at hp; simp at hp

theorem mpath_lefts (k : Stk) : ∀ (a c : List (List Int)) (i : Nat), Inv H k a → 1 ≤ c.length → (∀ p, k.head? = some p → c.length ≤ 2 ^ p.1) → a.length ≤ i → i < a.length + c.length →
    mpath H (a ++ c) i = mpath H c (i - a.length) ++ k.map (·.2) := by
  induction k with
  | nil => intro a c i hk _ _ _ _; simp [Inv] at hk; subst hk; simp
  | cons p r ih =>
    obtain ⟨h', s'⟩ := p
    intro a c i hk h1 hle hi hi2
    have hle' : c.length ≤ 2 ^ h' := hle (h', s') rfl
    obtain ⟨a', c', rfl, hc', hs', hr, hhead⟩ := hk
    rw [List.append_assoc, ih a' (c' ++ c) i hr (by simp; omega) ?_ (by simp at hi; omega) (by simp at hi2 ⊢; omega),
      mpath_right H hc' h1 hle' (by simp at hi; omega)]
    · rw [hs']; simp; congr 1; omega
    · intro q hq
      have h2 : h' < q.1 := hhead q hq
      have := Nat.pow_le_pow_right (n := 2) (by omega) (show h' + 1 ≤ q.1 from h2)
      rw [Nat.pow_succ] at this
      simp only [List.length_append]
      omega

theorem finish_collapse (idx : Nat) (k : Stk) : ∀ (cur : List Int) (a c ps : List (List Int)), Inv H k a → cur = mroot H c → 1 ≤ c.length → (∀ p, k.head? = some p → c.length ≤ 2 ^ p.1) → idx < a.length →
    PSet H idx k a ps → finish ps (collapse H ps.length cur k) = a.getD idx [] :: mpath H (a ++ c) idx := by
  induction k with
  | nil => intro cur a c ps hk _ _ _ hi; simp [Inv] at hk; subst hk; simp at hi
  | cons p r ih =>
    obtain ⟨h', s'⟩ := p
    intro cur a c ps hk hcur h1 hle hi hps
    have hle' : c.length ≤ 2 ^ h' := hle (h', s') rfl
    obtain ⟨a', c', rfl, hc', hs', hr, hhead⟩ := hk
    have hpos := Nat.pow_pos (n := h') (show 0 < 2 by omega)
    have hnext : ∀ q, r.head? = some q → (c' ++ c).length ≤ 2 ^ q.1 := by
      intro q hq
      have h2 : h' < q.1 := hhead q hq
      have := Nat.pow_le_pow_right (n := 2) (by omega) (show h' + 1 ≤ q.1 from h2)
      rw [Nat.pow_succ] at this
      simp only [List.length_append]
      omega
    rw [PSet_cons H hc'] at hps
    unfold collapse
    by_cases g1 : idx < a'.length
    · rw [if_pos g1] at hps
      have hl : h' + 1 < ps.length := by
        rcases PSet_len H r a' ps hr hps with h0 | ⟨q, hq, e⟩
        · exfalso
          exact PSet_nil_false H r a' hr g1 (h0 ▸ hps)
        · have := inv_heights H r a' (h' + 1) hr (fun p hp => hhead p hp) q hq
          omega
      rw [if_pos hl, ih _ a' (c' ++ c) ps hr (by rw [mroot_append H hc' h1 hle', hcur, hs']) (by simp; omega) hnext g1 hps]
      rw [List.getD_eq_getElem?_getD, List.getD_eq_getElem?_getD, List.getElem?_append_left (by omega)]
      simp
    · rw [if_neg g1, if_pos (by simp at hi; omega)] at hps
      have hlen : ps.length = h' + 1 := by rw [hps, List.length_cons, mpath_len H h' c' _ hc' (by simp at hi; omega)]
      rw [if_neg (by omega)]
      simp only [finish]
      rw [if_pos hlen.symm, List.append_assoc, List.append_assoc, mpath_lefts H r a' (c' ++ c) idx hr (by simp; omega) hnext (by omega) (by simp at hi ⊢; omega),
        mpath_left H hc' h1 hle' (by simp at hi; omega), hps, hcur]
      rw [List.getD_eq_getElem?_getD, List.getD_eq_getElem?_getD, List.getElem?_append_right (by omega)]
      simp

theorem prove_set {idx : Nat} {k : Stk} {l ps : List (List Int)} (hk : Inv H k l) (hi : idx < l.length) (h : PSet H idx k l ps) :
    prove H ps k = l.getD idx [] :: mpath H l idx := by
  cases k with
  | nil => simp [Inv] at hk; subst hk; simp at hi
  | cons p r =>
    obtain ⟨h', s'⟩ := p
    obtain ⟨a, c, rfl, hc, hs, hr, hhead⟩ := hk
    have hpos := Nat.pow_pos (n := h') (show 0 < 2 by omega)
    have hnext : ∀ q, r.head? = some q → c.length ≤ 2 ^ q.1 := by
      intro q hq
      have h2 : h' < q.1 := hhead q hq
      have := Nat.pow_le_pow_right (n := 2) (by omega) (Nat.le_of_lt h2)
      omega
    rw [PSet_cons H hc] at h
    simp only [prove]
    by_cases g1 : idx < a.length
    · rw [if_pos g1] at h
      have hne : ps.length ≠ 0 := by
        intro h0
        have h0 : ps = [] := List.eq_nil_of_length_eq_zero h0
        subst h0
        exact PSet_nil_false H r a hr g1 h
      rw [if_neg hne, finish_collapse H idx r s' a c ps hr hs (by omega) hnext g1 h]
      rw [List.getD_eq_getElem?_getD, List.getD_eq_getElem?_getD, List.getElem?_append_left (by omega)]
    · rw [if_neg g1, if_pos (by simp at hi; omega)] at h
      have hlen : ps.length = h' + 1 := by rw [h, List.length_cons, mpath_len H h' c _ hc (by simp at hi; omega)]
      rw [if_neg (by omega)]
      have hcol : collapse H ps.length s' r = (s', r) := by
        cases r with
        | nil => rfl
        | cons q r =>
          obtain ⟨h2, s2⟩ := q
          have : h' < h2 := hhead _ rfl
          unfold collapse
          rw [if_neg (by omega)]
      have hfin : finish ps (s', r) = ps ++ r.map (·.2) := by
        cases r with
        | nil => simp [finish]
        | cons q r =>
          obtain ⟨h2, s2⟩ := q
          have : h' < h2 := hhead _ rfl
          simp only [finish]
          rw [if_neg (by omega)]
      rw [hcol, hfin, mpath_lefts H r a c idx hr (by omega) hnext (by omega) (by simp at hi; omega), h]
      rw [List.getD_eq_getElem?_getD, List.getD_eq_getElem?_getD, List.getElem?_append_right (by omega)]
      simp

/-! what VerifyProof computes -/
def foldL (c : List Int) : List (List Int) → List Int
  | [] => c
  | s :: r => foldL (H (s ++ c)) r

def tailV (n st : Nat) (c : List Int) (rest : List (List Int)) : Option (List Int) :=
  if st = n - 1 then some (foldL H c rest) else
    match rest with
    | [] => none
    | s :: r => some (foldL H (H (c ++ s)) r)

def vrun (idx n : Nat) : Nat → Nat → List Int → List (List Int) → Option (List Int)
  | h, st, c, [] => if n ≤ idx / 2 ^ h * 2 ^ h + 2 ^ h - 1 then tailV H n st c [] else none
  | h, st, c, s :: r =>
    if n ≤ idx / 2 ^ h * 2 ^ h + 2 ^ h - 1 then tailV H n st c (s :: r)
    else vrun idx n (h + 1) (idx / 2 ^ h * 2 ^ h + 2 ^ h - 1) (if idx - idx / 2 ^ h * 2 ^ h < 2 ^ (h - 1) then H (c ++ s) else H (s ++ c)) r

def tailD (n st : Nat) (m : Nat) : Option (List Bool) :=
  if st = n - 1 then some (List.replicate m true) else
    match m with
    | 0 => none
    | k + 1 => some (false :: List.replicate k true)

def dirsV (idx n : Nat) : Nat → Nat → Nat → Option (List Bool)
  | h, st, 0 => if n ≤ idx / 2 ^ h * 2 ^ h + 2 ^ h - 1 then tailD n st 0 else none
  | h, st, m + 1 =>
    if n ≤ idx / 2 ^ h * 2 ^ h + 2 ^ h - 1 then tailD n st (m + 1)
    else (dirsV idx n (h + 1) (idx / 2 ^ h * 2 ^ h + 2 ^ h - 1) m).map (decide (2 ^ (h - 1) ≤ idx - idx / 2 ^ h * 2 ^ h) :: ·)

def chain (c : List Int) : List Bool → List (List Int) → List Int
  | b :: d, s :: r => chain (if b = true then H (s ++ c) else H (c ++ s)) d r
  | _, _ => c

theorem foldL_chain (rest : List (List Int)) : ∀ c, foldL H c rest = chain H c (List.replicate rest.length true) rest := by
  induction rest with
  | nil => intro c; rfl
  | cons s r ih => intro c; simp only [foldL, List.length_cons, List.replicate_succ, chain, if_true]; exact ih _

theorem tailV_chain (n st : Nat) (c : List Int) (rest : List (List Int)) : tailV H n st c rest = (tailD n st rest.length).map fun d => chain H c d rest := by
  unfold tailV tailD
  split
  · simp [foldL_chain]
  · cases rest with
    | nil => rfl
    | cons s r => simp [foldL_chain, chain]

theorem vrun_chain (idx n : Nat) (rest : List (List Int)) : ∀ (h st : Nat) (c : List Int), vrun H idx n h st c rest = (dirsV idx n h st rest.length).map fun d => chain H c d rest := by
  induction rest with
  | nil =>
    intro h st c
    simp only [vrun, dirsV, List.length_nil]
    split
    · exact tailV_chain H n st c []
    · rfl
  | cons s r ih =>
    intro h st c
    simp only [vrun, dirsV, List.length_cons]
    split
    · exact tailV_chain H n st c (s :: r)
    · rw [ih, Option.map_map]
      congr 1
      funext d
      simp only [Function.comp, chain]
      by_cases g : idx - idx / 2 ^ h * 2 ^ h < 2 ^ (h - 1)
      · rw [if_pos g, decide_eq_false (by omega)]; simp
      · rw [if_neg g, decide_eq_true (by omega)]; simp

/-- on which side the sum beside the way stands: true: to the left -/
def dirsS : Nat → Nat → Nat → List Bool
  | 0, _, _ => []
  | f + 1, idx, n =>
    if n ≤ 1 then [] else
    if idx < hp n then dirsS f idx (hp n) ++ [false] else dirsS f (idx - hp n) (n - hp n) ++ [true]

theorem chain_snoc (d : List Bool) : ∀ (c : List Int) (r : List (List Int)) (b : Bool) (s : List Int), d.length = r.length →
    chain H c (d ++ [b]) (r ++ [s]) = if b = true then H (s ++ chain H c d r) else H (chain H c d r ++ s) := by
  induction d with
  | nil => intro c r b s h; have : r = [] := List.eq_nil_of_length_eq_zero (by simpa using h.symm); subst this; simp [chain]
  | cons x d ih =>
    intro c r b s h
    cases r with
    | nil => simp at h
    | cons y r => simp only [List.cons_append, chain]; exact ih _ r b s (by simpa using h)

theorem path_dirs (f : Nat) : ∀ (l : List (List Int)) (i : Nat), l.length ≤ f → i < l.length →
    (mpath H l i).length = (dirsS f i l.length).length ∧ chain H (H (l.getD i [])) (dirsS f i l.length) (mpath H l i) = mroot H l := by
  induction f with
  | zero => intro l i h1 h2; omega
  | succ f ih =>
    intro l i h1 h2
    simp only [dirsS]
    by_cases h : l.length ≤ 1
    · rw [if_pos h, mpath_one H h]
      obtain ⟨x, rfl⟩ : ∃ x, l = [x] := by
        match l, h2, h with
        | [x], _, _ => exact ⟨x, rfl⟩
        | [], h2, _ => simp at h2
      have : i = 0 := by simp at h2; omega
      subst this
      simp [chain, mroot_one]
    · rw [if_neg h]
      have hlt := hp_lt (n := l.length) (by omega)
      have hge := hp_ge (n := l.length) (by omega)
      have hpos := hp_pos l.length
      obtain ⟨a, b, j, e, ha, hab, hb1, hb2⟩ : ∃ a b j, l = a ++ b ∧ a.length = hp l.length ∧ hp l.length = 2 ^ j ∧ 1 ≤ b.length ∧ b.length ≤ 2 ^ j :=
        ⟨l.take (hp l.length), l.drop (hp l.length), Nat.log2 (l.length - 1), (List.take_append_drop _ _).symm, by simp; omega, rfl, by simp; omega, by
          have : hp l.length = 2 ^ Nat.log2 (l.length - 1) := rfl
          simp; omega⟩
      have hbl : b.length = l.length - hp l.length := by
        have : l.length = a.length + b.length := by rw [← List.length_append, ← e]
        omega
      rw [mroot_split H l (by omega)]
      have ta : l.take (hp l.length) = a := by rw [← ha]; conv => lhs; rw [e]
                                               simp
      have tb : l.drop (hp l.length) = b := by rw [← ha]; conv => lhs; rw [e]
                                               simp
      rw [ta, tb]
      by_cases hi : i < hp l.length
      · rw [if_pos hi]
        have := ih a i (by omega) (by omega)
        rw [ha] at this
        have hpth : mpath H l i = mpath H a i ++ [mroot H b] := by rw [e]; exact mpath_left H (ha.trans hab) hb1 hb2 (by omega)
        have hg : l.getD i [] = a.getD i [] := by
          rw [e, List.getD_eq_getElem?_getD, List.getD_eq_getElem?_getD, List.getElem?_append_left (by omega)]
        rw [hpth, hg, chain_snoc H _ _ _ _ _ this.1.symm, this.2]
        exact ⟨by simp [this.1], by simp⟩
      · rw [if_neg hi]
        have := ih b (i - hp l.length) (by omega) (by omega)
        rw [hbl] at this
        have hpth : mpath H l i = mpath H b (i - hp l.length) ++ [mroot H a] := by rw [← ha]; conv => lhs; rw [e]
                                                                                   exact mpath_right H (ha.trans hab) hb1 hb2 (by omega)
        have hg : l.getD i [] = b.getD (i - hp l.length) [] := by
          rw [← ha]; conv => lhs; rw [e]
          rw [List.getD_eq_getElem?_getD, List.getD_eq_getElem?_getD, List.getElem?_append_right (by omega)]
        rw [hpth, hg, chain_snoc H _ _ _ _ _ this.1.symm, this.2]
        exact ⟨by simp [this.1], by simp⟩

def allDirs (n : Nat) : Bool := (List.range n).all fun i => dirsV i n 1 i (dirsS n i n).length == some (dirsS n i n)

theorem dirs_200 : (List.range 201).all allDirs = true := by decide +kernel

theorem verify_path {l : List (List Int)} {i : Nat} (hl : l.length ≤ 200) (hi : i < l.length) :
    vrun H i l.length 1 i (H (l.getD i [])) (mpath H l i) = some (mroot H l) := by
  have h := path_dirs H l.length l i (Nat.le_refl _) hi
  have hd := List.all_eq_true.1 dirs_200 l.length (by simp; omega)
  have hd2 := List.all_eq_true.1 hd i (by simpa using hi)
  rw [vrun_chain, h.1, eq_of_beq hd2, Option.map_some, h.2]
end Merk
