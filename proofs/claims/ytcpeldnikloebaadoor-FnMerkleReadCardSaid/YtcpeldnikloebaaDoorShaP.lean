/- Plain functions of SHA-256 as the walks spell them, and what is proved of them without any program. -/
import Derived.RowKit
import Derived.OpenShut
import Derived.Laws.BitsAllLaws
import Derived.Laws.BitsLemmas
set_option linter.unusedVariables false
set_option linter.unusedSimpArgs false
namespace Go.Sha
open Go

abbrev H8 := Nat → Int
/-- the rotation of the package: to the left by k (mod 32) -/
def rotk (k x : Int) : Int :=
  bits .or .u32 (x * 2 ^ (bits BinOp.and IntKind.u64 (IntKind.u64.wrap k) 31).toNat % 4294967296) (x / 2 ^ (32 - (bits BinOp.and IntKind.u64 (IntKind.u64.wrap k) 31)).toNat)
/-- the rotation of the reference: to the right by s -/
def turn (x s : Int) : Int := bits .or .u32 (x / 2 ^ s.toNat) (x * 2 ^ (32 - s).toNat % 4294967296)

theorem bits_u32 (o : BinOp) (a b : Int) : 0 ≤ bits o .u32 a b ∧ bits o .u32 a b < 4294967296 := by
  have := bounds_u32 (wf_bits o .u32 a b)
  omega
theorem rotk_bd (k x : Int) : 0 ≤ rotk k x ∧ rotk k x < 4294967296 := bits_u32 _ _ _
theorem turn_bd (x s : Int) : 0 ≤ turn x s ∧ turn x s < 4294967296 := bits_u32 _ _ _
theorem and31 (k : Int) : 0 ≤ bits BinOp.and IntKind.u64 (IntKind.u64.wrap k) 31 ∧ bits BinOp.and IntKind.u64 (IntKind.u64.wrap k) 31 ≤ 31 := by
  have h := bounds_u64 (wf_wrap .u64 k)
  rw [u64_and _ _ (by omega) (by omega) (by omega) (by omega)]
  have := Nat.and_le_right (n := (IntKind.u64.wrap k).toNat) (m := (31 : Int).toNat)
  omega
theorem or_comm_u32 (a b : Int) : bits .or .u32 a b = bits .or .u32 b a := by
  unfold bits
  simp only [BitVec.or_comm]
theorem rotk_turn (k : Int) (s : Int) (h : bits BinOp.and IntKind.u64 (IntKind.u64.wrap k) 31 = 32 - s) (x : Int) : rotk k x = turn x s := by
  unfold rotk turn
  rw [h, or_comm_u32]
  have : 32 - (32 - s) = s := by omega
  rw [this]
theorem rot_lit (k : Int) (s : Nat) (h : ((IntKind.u64.wrap k).toNat &&& 31 : Nat) = 32 - s) (hs : s ≤ 32) (x : Int) : rotk k x = turn x s := by
  refine rotk_turn k s ?_ x
  have hb := bounds_u64 (wf_wrap .u64 k)
  rw [u64_and _ _ (by omega) (by omega) (by omega) (by omega)]
  have : (31 : Int).toNat = 31 := rfl
  rw [this, h]; omega
theorem rot2 (x : Int) : rotk (-2) x = turn x 2 := rot_lit (-2) 2 (by decide +kernel) (by omega) x
theorem rot6 (x : Int) : rotk (-6) x = turn x 6 := rot_lit (-6) 6 (by decide +kernel) (by omega) x
theorem rot7 (x : Int) : rotk (-7) x = turn x 7 := rot_lit (-7) 7 (by decide +kernel) (by omega) x
theorem rot11 (x : Int) : rotk (-11) x = turn x 11 := rot_lit (-11) 11 (by decide +kernel) (by omega) x
theorem rot13 (x : Int) : rotk (-13) x = turn x 13 := rot_lit (-13) 13 (by decide +kernel) (by omega) x
theorem rot17 (x : Int) : rotk (-17) x = turn x 17 := rot_lit (-17) 17 (by decide +kernel) (by omega) x
theorem rot18 (x : Int) : rotk (-18) x = turn x 18 := rot_lit (-18) 18 (by decide +kernel) (by omega) x
theorem rot19 (x : Int) : rotk (-19) x = turn x 19 := rot_lit (-19) 19 (by decide +kernel) (by omega) x
theorem rot22 (x : Int) : rotk (-22) x = turn x 22 := rot_lit (-22) 22 (by decide +kernel) (by omega) x
theorem rot25 (x : Int) : rotk (-25) x = turn x 25 := rot_lit (-25) 25 (by decide +kernel) (by omega) x

def KL : List Int := [
  0x428a2f98, 0x71374491, 0xb5c0fbcf, 0xe9b5dba5, 0x3956c25b, 0x59f111f1, 0x923f82a4, 0xab1c5ed5,
  0xd807aa98, 0x12835b01, 0x243185be, 0x550c7dc3, 0x72be5d74, 0x80deb1fe, 0x9bdc06a7, 0xc19bf174,
  0xe49b69c1, 0xefbe4786, 0x0fc19dc6, 0x240ca1cc, 0x2de92c6f, 0x4a7484aa, 0x5cb0a9dc, 0x76f988da,
  0x983e5152, 0xa831c66d, 0xb00327c8, 0xbf597fc7, 0xc6e00bf3, 0xd5a79147, 0x06ca6351, 0x14292967,
  0x27b70a85, 0x2e1b2138, 0x4d2c6dfc, 0x53380d13, 0x650a7354, 0x766a0abb, 0x81c2c92e, 0x92722c85,
  0xa2bfe8a1, 0xa81a664b, 0xc24b8b70, 0xc76c51a3, 0xd192e819, 0xd6990624, 0xf40e3585, 0x106aa070,
  0x19a4c116, 0x1e376c08, 0x2748774c, 0x34b0bcb5, 0x391c0cb3, 0x4ed8aa4a, 0x5b9cca4f, 0x682e6ff3,
  0x748f82ee, 0x78a5636f, 0x84c87814, 0x8cc70208, 0x90befffa, 0xa4506ceb, 0xbef9a3f7, 0xc67178f2]
/-- the round constants -/
def Kf (k : Nat) : Int := KL.getD k 0
/-- the block of the round constants, behind one name -/
def K64 : Array Value := (KL.map (Value.int .u32)).toArray
def Z64 : Array Value := Array.replicate 64 (.int .u32 0)
theorem K64_at {k : Nat} (h : k < 64) : K64[k]? = some (.int .u32 (Kf k)) := by
  have hl : k < KL.length := h
  simp [K64, Kf, List.getD_eq_getElem?_getD, List.getElem?_eq_getElem hl]
theorem K64_size : K64.size = 64 := by decide +kernel
theorem Z64_size : Z64.size = 64 := by simp [Z64]
theorem Z64_at {k : Nat} (h : k < 64) : Z64[k]? = some (.int .u32 0) := by simp [Z64, h]
theorem Kf_bd (k : Nat) : 0 ≤ Kf k ∧ Kf k < 4294967296 := by
  by_cases h : k < 64
  · have : (List.range 64).all (fun k => decide (0 ≤ Kf k ∧ Kf k < 4294967296)) = true := by decide +kernel
    have := List.all_eq_true.1 this k (by simpa using h)
    simpa using this
  · have : Kf k = 0 := by
      unfold Kf
      rw [List.getD_eq_getElem?_getD, List.getElem?_eq_none (by show 64 ≤ k; omega)]; rfl
    rw [this]; omega

/-- a word of a block's bytes, as the package reads it -/
def ldw (p : Nat → Int) (i : Nat) : Int :=
  bits .or .u32 (bits .or .u32 (bits .or .u32 (p (4 * i) * 16777216) (p (4 * i + 1) * 65536)) (p (4 * i + 2) * 256)) (p (4 * i + 3))
theorem or_add {x b : Int} {n : Nat} (hx : 0 ≤ x) (hb : 0 ≤ b) (hbn : b < 2 ^ n) (hs : x * 2 ^ n + b < 4294967296) : bits .or .u32 (x * 2 ^ n) b = x * 2 ^ n + b := by
  obtain ⟨x, rfl⟩ := Int.eq_ofNat_of_zero_le hx
  obtain ⟨b, rfl⟩ := Int.eq_ofNat_of_zero_le hb
  have hpow : ((2 : Int) ^ n) = ((2 ^ n : Nat) : Int) := by simp
  rw [hpow] at hbn hs ⊢
  have h1 : b < 2 ^ n := by omega
  have e : ((x : Int) * ((2 ^ n : Nat) : Int)) = ((x * 2 ^ n : Nat) : Int) := by simp
  rw [e] at hs ⊢
  rw [u32_or_nat _ _ (by omega) (by omega)]
  have := Nat.shiftLeft_add_eq_or_of_lt h1 x
  rw [Nat.shiftLeft_eq] at this
  rw [← this]; simp
theorem ldw_val {p : Nat → Int} (hp : ∀ j, j < 64 → 0 ≤ p j ∧ p j ≤ 255) {i : Nat} (hi : i < 16) : ldw p i = p (4 * i) * 16777216 + p (4 * i + 1) * 65536 + p (4 * i + 2) * 256 + p (4 * i + 3) := by
  have h0 := hp (4 * i) (by omega)
  have h1 := hp (4 * i + 1) (by omega)
  have h2 := hp (4 * i + 2) (by omega)
  have h3 := hp (4 * i + 3) (by omega)
  unfold ldw
  generalize p (4 * i) = a at *
  generalize p (4 * i + 1) = b at *
  generalize p (4 * i + 2) = c at *
  generalize p (4 * i + 3) = d at *
  have e1 : bits .or .u32 (a * 16777216) (b * 65536) = a * 16777216 + b * 65536 := or_add (n := 24) h0.1 (by omega) (by omega) (by omega)
  have e2 : bits .or .u32 (a * 16777216 + b * 65536) (c * 256) = a * 16777216 + b * 65536 + c * 256 := by
    have := or_add (x := a * 256 + b) (b := c * 256) (n := 16) (by omega) (by omega) (by omega) (by omega)
    rw [show (a * 256 + b) * 2 ^ 16 = a * 16777216 + b * 65536 by omega] at this
    exact this
  have e3 : bits .or .u32 (a * 16777216 + b * 65536 + c * 256) d = a * 16777216 + b * 65536 + c * 256 + d := by
    have := or_add (x := a * 65536 + b * 256 + c) (b := d) (n := 8) (by omega) (by omega) (by omega) (by omega)
    rw [show (a * 65536 + b * 256 + c) * 2 ^ 8 = a * 16777216 + b * 65536 + c * 256 by omega] at this
    exact this
  rw [e1, e2, e3]
/-- a word as the reference reads it: n of its bytes -/
def rdw (p : Nat → Int) (i : Nat) : Nat → Int
  | 0 => 0
  | n + 1 => bits .or .u32 (rdw p i n * 256 % 4294967296) (p (4 * i + n))
theorem rdw_four {p : Nat → Int} (hp : ∀ j, j < 64 → 0 ≤ p j ∧ p j ≤ 255) {i : Nat} (hi : i < 16) : rdw p i 4 = ldw p i := by
  have h0 := hp (4 * i) (by omega)
  have h1 := hp (4 * i + 1) (by omega)
  have h2 := hp (4 * i + 2) (by omega)
  have h3 := hp (4 * i + 3) (by omega)
  rw [ldw_val hp hi]
  have e1 : rdw p i 1 = p (4 * i) := by
    have := or_add (x := 0) (b := p (4 * i)) (n := 8) (by omega) (by omega) (by omega) (by omega)
    simpa [rdw] using this
  have e2 : rdw p i 2 = p (4 * i) * 256 + p (4 * i + 1) := by
    have := or_add (x := p (4 * i)) (b := p (4 * i + 1)) (n := 8) (by omega) (by omega) (by omega) (by omega)
    unfold rdw
    rw [e1, show p (4 * i) * 256 % 4294967296 = p (4 * i) * 2 ^ 8 by omega, this]; omega
  have e3 : rdw p i 3 = p (4 * i) * 65536 + p (4 * i + 1) * 256 + p (4 * i + 2) := by
    have := or_add (x := p (4 * i) * 256 + p (4 * i + 1)) (b := p (4 * i + 2)) (n := 8) (by omega) (by omega) (by omega) (by omega)
    unfold rdw
    rw [e2, show (p (4 * i) * 256 + p (4 * i + 1)) * 256 % 4294967296 = (p (4 * i) * 256 + p (4 * i + 1)) * 2 ^ 8 by omega, this]; omega
  have := or_add (x := p (4 * i) * 65536 + p (4 * i + 1) * 256 + p (4 * i + 2)) (b := p (4 * i + 3)) (n := 8) (by omega) (by omega) (by omega) (by omega)
  unfold rdw
  rw [e3, show (p (4 * i) * 65536 + p (4 * i + 1) * 256 + p (4 * i + 2)) * 256 % 4294967296 = (p (4 * i) * 65536 + p (4 * i + 1) * 256 + p (4 * i + 2)) * 2 ^ 8 by omega, this]; omega
theorem rdw_bd (p : Nat → Int) (i n : Nat) : 0 ≤ rdw p i n ∧ rdw p i n < 4294967296 := by
  cases n with
  | zero => simp [rdw]
  | succ n => exact bits_u32 _ _ _
theorem ldw_bd (p : Nat → Int) (i : Nat) : 0 ≤ ldw p i ∧ ldw p i < 4294967296 := bits_u32 _ _ _
/-- the next word of the schedule out of the words before it -/
def nextw (f : Nat → Int) (i : Nat) : Int :=
  (f (i - 16) + bits .xor .u32 (bits .xor .u32 (turn (f (i - 15)) 7) (turn (f (i - 15)) 18)) (f (i - 15) / 8) + f (i - 7) +
    bits .xor .u32 (bits .xor .u32 (turn (f (i - 2)) 17) (turn (f (i - 2)) 19)) (f (i - 2) / 1024)) % 4294967296
/-- the schedule's first n words -/
def sched (p : Nat → Int) : Nat → List Int
  | 0 => []
  | n + 1 => if n < 16 then sched p n ++ [ldw p n] else sched p n ++ [nextw (fun j => (sched p n).getD j 0) n]
theorem sched_succ (p : Nat → Int) (n : Nat) : sched p (n + 1) = if n < 16 then sched p n ++ [ldw p n] else sched p n ++ [nextw (fun j => (sched p n).getD j 0) n] := rfl
theorem sched_len (p : Nat → Int) (n : Nat) : (sched p n).length = n := by
  induction n with
  | zero => rfl
  | succ n ih => rw [sched_succ]; split <;> simp [ih]
def wf (p : Nat → Int) (k : Nat) : Int := (sched p (k + 1)).getD k 0
theorem wf_small (p : Nat → Int) {k : Nat} (h : k < 16) : wf p k = ldw p k := by
  unfold wf
  rw [sched_succ, if_pos h, List.getD_eq_getElem?_getD, List.getElem?_append_right (by rw [sched_len]; omega), sched_len]
  simp
theorem sched_at (p : Nat → Int) (n : Nat) : ∀ k, k < n → (sched p n).getD k 0 = wf p k := by
  induction n with
  | zero => intro k h; omega
  | succ n ih =>
    intro k h
    by_cases hk : k = n
    · subst hk; rfl
    · have hk' : k < n := by omega
      rw [← ih k hk']
      have : ∀ x, (sched p n ++ [x]).getD k 0 = (sched p n).getD k 0 := fun x => by
        rw [List.getD_eq_getElem?_getD, List.getD_eq_getElem?_getD, List.getElem?_append_left (by rw [sched_len]; omega)]
      rw [sched_succ]
      split <;> exact this _
theorem nextw_congr {f g : Nat → Int} {i : Nat} (h : ∀ j, j < i → f j = g j) (hi : 16 ≤ i) : nextw f i = nextw g i := by
  unfold nextw
  rw [h (i - 16) (by omega), h (i - 15) (by omega), h (i - 7) (by omega), h (i - 2) (by omega)]
theorem wf_next (p : Nat → Int) {k : Nat} (h : 16 ≤ k) : wf p k = nextw (wf p) k := by
  have e : wf p k = nextw (fun j => (sched p k).getD j 0) k := by
    unfold wf
    rw [sched_succ, if_neg (by omega), List.getD_eq_getElem?_getD, List.getElem?_append_right (by rw [sched_len]; omega), sched_len]
    simp
  rw [e]
  exact nextw_congr (fun j hj => sched_at p k j hj) h
theorem wf_bd (p : Nat → Int) (k : Nat) : 0 ≤ wf p k ∧ wf p k < 4294967296 := by
  by_cases h : k < 16
  · rw [wf_small p h]; exact ldw_bd p k
  · rw [wf_next p (by omega)]; unfold nextw; omega

/-- one round -/
def t1 (v : H8) (kk ww : Int) : Int :=
  (v 7 + bits BinOp.xor IntKind.u32 (bits BinOp.xor IntKind.u32 (turn (v 4) 6) (turn (v 4) 11)) (turn (v 4) 25) +
    bits BinOp.xor IntKind.u32 (bits BinOp.and IntKind.u32 (v 4) (v 5)) (bits BinOp.and IntKind.u32 (bits BinOp.xor IntKind.u32 IntKind.u32.max (v 4)) (v 6)) + kk + ww)
def t2 (v : H8) : Int :=
  bits BinOp.xor IntKind.u32 (bits BinOp.xor IntKind.u32 (turn (v 0) 2) (turn (v 0) 13)) (turn (v 0) 22) +
    bits BinOp.xor IntKind.u32 (bits BinOp.xor IntKind.u32 (bits BinOp.and IntKind.u32 (v 0) (v 1)) (bits BinOp.and IntKind.u32 (v 0) (v 2))) (bits BinOp.and IntKind.u32 (v 1) (v 2))
def rnd (v : H8) (kk ww : Int) : H8
  | 0 => (t1 v kk ww + t2 v) % 4294967296
  | 1 => v 0
  | 2 => v 1
  | 3 => v 2
  | 4 => (v 3 + t1 v kk ww) % 4294967296
  | 5 => v 4
  | 6 => v 5
  | 7 => v 6
  | _ => 0
def rounds (h : H8) (w : Nat → Int) : Nat → H8
  | 0 => h
  | n + 1 => rnd (rounds h w n) (Kf n) (w n)
def H8ok (h : H8) : Prop := ∀ j, j < 8 → 0 ≤ h j ∧ h j < 4294967296
theorem rnd_ok {v : H8} (h : H8ok v) (kk ww : Int) : H8ok (rnd v kk ww) := by
  intro j hj
  match j, hj with
  | 0, _ => show 0 ≤ (t1 v kk ww + t2 v) % 4294967296 ∧ (t1 v kk ww + t2 v) % 4294967296 < 4294967296; omega
  | 1, _ => exact h 0 (by omega)
  | 2, _ => exact h 1 (by omega)
  | 3, _ => exact h 2 (by omega)
  | 4, _ => show 0 ≤ (v 3 + t1 v kk ww) % 4294967296 ∧ (v 3 + t1 v kk ww) % 4294967296 < 4294967296; omega
  | 5, _ => exact h 4 (by omega)
  | 6, _ => exact h 5 (by omega)
  | 7, _ => exact h 6 (by omega)
theorem rounds_ok {h : H8} (hh : H8ok h) (w : Nat → Int) (n : Nat) : H8ok (rounds h w n) := by
  induction n with
  | zero => exact hh
  | succ n ih => exact rnd_ok ih _ _
/-- a block taken in -/
def comp (h : H8) (p : Nat → Int) : H8 := fun j => (h j + rounds h (wf p) 64 j) % 4294967296
theorem comp_ok (h : H8) (p : Nat → Int) : H8ok (comp h p) := by intro j _; unfold comp; omega
/-- eight words as cells; the cells of a digest -/
def vcells (h : H8) : Array Value := #[.int .u32 (h 0), .int .u32 (h 1), .int .u32 (h 2), .int .u32 (h 3), .int .u32 (h 4), .int .u32 (h 5), .int .u32 (h 6), .int .u32 (h 7)]
def dcells (h : H8) (bv nv : Value) : Array Value := #[.int .u32 (h 0), .int .u32 (h 1), .int .u32 (h 2), .int .u32 (h 3), .int .u32 (h 4), .int .u32 (h 5), .int .u32 (h 6), .int .u32 (h 7), bv, nv]
theorem lt8 {k : Nat} (h : k < 8) : k = 0 ∨ k = 1 ∨ k = 2 ∨ k = 3 ∨ k = 4 ∨ k = 5 ∨ k = 6 ∨ k = 7 := by omega
theorem vcells_at {h : H8} {k : Nat} (hk : k < 8) : (vcells h)[k]? = some (.int .u32 (h k)) := by
  rcases lt8 hk with rfl | rfl | rfl | rfl | rfl | rfl | rfl | rfl <;> rfl
theorem dcells_at {h : H8} {bv nv : Value} {k : Nat} (hk : k < 8) : (dcells h bv nv)[k]? = some (.int .u32 (h k)) := by
  rcases lt8 hk with rfl | rfl | rfl | rfl | rfl | rfl | rfl | rfl <;> rfl
theorem dcells_set {h : H8} {bv nv : Value} {k : Nat} {x : Int} (hk : k < 8) : (dcells h bv nv).setIfInBounds k (.int .u32 x) = dcells (fun j => if j = k then x else h j) bv nv := by
  rcases lt8 hk with rfl | rfl | rfl | rfl | rfl | rfl | rfl | rfl <;> simp [dcells]
theorem vcells_set {h : H8} {k : Nat} {x : Int} (hk : k < 8) : (vcells h).setIfInBounds k (.int .u32 x) = vcells (fun j => if j = k then x else h j) := by
  rcases lt8 hk with rfl | rfl | rfl | rfl | rfl | rfl | rfl | rfl <;> simp [vcells]
theorem dcells_congr {h g : H8} {bv nv : Value} (e : ∀ j, j < 8 → h j = g j) : dcells h bv nv = dcells g bv nv := by
  simp [dcells, e]
theorem vcells_congr {h g : H8} (e : ∀ j, j < 8 → h j = g j) : vcells h = vcells g := by
  simp [vcells, e]
theorem nextw_wrap (a b c d : Int) : IntKind.u32.wrap (IntKind.u32.wrap (IntKind.u32.wrap (a + b) + c) + d) = (a + b + c + d) % 4294967296 := by
  simp only [IntKind.wrap_u32]; omega

/-- blocks of bytes taken in -/
def absorb (h : H8) (l : List Int) : Nat → H8
  | 0 => h
  | n + 1 => absorb (comp h fun j => l.getD j 0) (l.drop 64) n
theorem absorb_succ (h : H8) (l : List Int) (n : Nat) : absorb h l (n + 1) = absorb (comp h fun j => l.getD j 0) (l.drop 64) n := rfl
theorem absorb_ok {h : H8} (hh : H8ok h) (n : Nat) : ∀ l, H8ok (absorb h l n) := by
  induction n generalizing h with
  | zero => intro l; exact hh
  | succ n ih => intro l; exact ih (comp_ok _ _) _
theorem comp_congr {p q : Nat → Int} (hh : ∀ j, j < 64 → p j = q j) (h : H8) : comp h p = comp h q := by
  have hs : ∀ n, sched p n = sched q n := by
    intro n
    induction n with
    | zero => rfl
    | succ n ih =>
      rw [sched_succ, sched_succ, ih]
      split
      · unfold ldw; rw [hh _ (by omega), hh _ (by omega), hh _ (by omega), hh _ (by omega)]
      · rfl
  have hw : wf p = wf q := by funext k; unfold wf; rw [hs]
  unfold comp; rw [hw]
theorem absorb_append (n : Nat) : ∀ (h : H8) (l m : List Int), 64 * n ≤ l.length → absorb h (l ++ m) n = absorb h l n := by
  induction n with
  | zero => intro h l m _; rfl
  | succ n ih =>
    intro h l m hl
    rw [absorb_succ, absorb_succ, comp_congr (p := fun j => (l ++ m).getD j 0) (q := fun j => l.getD j 0) (fun j hj => by
      rw [List.getD_eq_getElem?_getD, List.getD_eq_getElem?_getD, List.getElem?_append_left (by omega)]), List.drop_append_of_le_length (by omega)]
    exact ih _ _ _ (by simp; omega)
theorem absorb_add (a : Nat) : ∀ (b : Nat) (h : H8) (l : List Int), absorb h l (a + b) = absorb (absorb h l a) (l.drop (64 * a)) b := by
  induction a with
  | zero => intro b h l; simp [absorb]
  | succ a ih =>
    intro b h l
    rw [show a + 1 + b = (a + b) + 1 by omega, absorb_succ, absorb_succ, ih, List.drop_drop]
    congr 2
    omega

theorem absorb_snoc (n : Nat) (h : H8) (l : List Int) : absorb h l (n + 1) = comp (absorb h l n) (fun j => (l.drop (64 * n)).getD j 0) := by
  rw [absorb_add n 1]; rfl

def IV : H8
  | 0 => 0x6a09e667 | 1 => 0xbb67ae85 | 2 => 0x3c6ef372 | 3 => 0xa54ff53a | 4 => 0x510e527f | 5 => 0x9b05688c | 6 => 0x1f83d9ab | 7 => 0x5be0cd19 | _ => 0
theorem IV_ok : H8ok IV := by
  have : (List.range 8).all (fun j => decide (0 ≤ IV j ∧ IV j < 4294967296)) = true := by decide +kernel
  intro j hj
  simpa using List.all_eq_true.1 this j (by simpa using hj)
/-- how many noughts stand behind the bit 1 -/
def zeros (n : Nat) : Nat := (119 - n % 64) % 64
/-- the eight bytes of the number of bits -/
def len8 (n : Nat) : List Int := [n * 8 / 72057594037927936 % 256, n * 8 / 281474976710656 % 256, n * 8 / 1099511627776 % 256, n * 8 / 4294967296 % 256, n * 8 / 16777216 % 256, n * 8 / 65536 % 256, n * 8 / 256 % 256, n * 8 % 256]
theorem len8_at {n k : Nat} {i : Int} (hi : i = 7 - (k : Int)) (hk : k < 8) : (n : Int) * 8 / 2 ^ (8 * i).toNat % 256 = (len8 n).getD k 0 := by
  subst hi
  rcases lt8 hk with rfl | rfl | rfl | rfl | rfl | rfl | rfl | rfl <;> simp [len8]
theorem len8_take {n k : Nat} (hk : k < 8) : (len8 n).take (k + 1) = (len8 n).take k ++ [(len8 n).getD k 0] := by
  rw [List.take_succ_eq_append_getElem (by simpa [len8] using hk), List.getD_eq_getElem?_getD, List.getElem?_eq_getElem (by simpa [len8] using hk)]; rfl
def padding (n : Nat) : List Int := 128 :: (List.replicate (zeros n) 0 ++ len8 n)
theorem zeros_fit (n : Nat) : (n + (1 + zeros n + 8)) % 64 = 0 := by unfold zeros; omega
theorem padding_len (n : Nat) : (padding n).length = 1 + zeros n + 8 := by simp [padding, len8]; omega
def word4 (x : Int) : List Int := [x / 16777216 % 256, x / 65536 % 256, x / 256 % 256, x % 256]
def out (h : H8) : List Int := word4 (h 0) ++ word4 (h 1) ++ word4 (h 2) ++ word4 (h 3) ++ word4 (h 4) ++ word4 (h 5) ++ word4 (h 6) ++ word4 (h 7)
/-- SHA-256 -/
def sha (m : List Int) : List Int := out (absorb IV (m ++ padding m.length) ((m ++ padding m.length).length / 64))
theorem word4_val {x : Int} (h0 : 0 ≤ x) (h1 : x < 4294967296) : word4 x = [x / 16777216, x / 65536 % 256, x / 256 % 256, x % 256] := by
  unfold word4
  rw [show x / 16777216 % 256 = x / 16777216 by omega]
theorem word4_len (x : Int) : (word4 x).length = 4 := rfl
theorem out_take {h : H8} {k : Nat} (hk : k < 8) : (out h).take (4 * (k + 1)) = (out h).take (4 * k) ++ word4 (h k) := by
  rcases lt8 hk with rfl | rfl | rfl | rfl | rfl | rfl | rfl | rfl <;> rfl
theorem sha_len (m : List Int) : (sha m).length = 32 := rfl
def Bytes (l : List Int) : Prop := ∀ x ∈ l, 0 ≤ x ∧ x ≤ 255
theorem padding_bytes (n : Nat) : Bytes (padding n) := by
  intro x hx
  simp only [padding, len8, List.mem_cons, List.mem_append, List.mem_replicate, List.not_mem_nil, or_false] at hx
  omega
theorem out_bytes (h : H8) : Bytes (out h) := by
  intro x hx
  simp only [out, word4, List.cons_append, List.nil_append, List.mem_cons, List.not_mem_nil, or_false] at hx
  omega
theorem sha_bytes (m : List Int) : Bytes (sha m) := out_bytes _
end Go.Sha
