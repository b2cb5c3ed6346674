/- Plain numbers and lists: a prefix code, its bits, and how it is read back bit by bit (RFC 7541, 5.2). No program stands here. -/
import Derived.Test.YthnaobmepfkkpaaDoorBase
namespace Go.Proofs.YthnaobmepfkkpaaDoor
open Go Go.RowKit

/-- The k lowest bits of a number, the highest of them first. -/
def bitsN (x : Nat) : Nat → List Nat
  | 0 => []
  | k + 1 => x / 2 ^ k % 2 :: bitsN x k
theorem bitsN_length (x k : Nat) : (bitsN x k).length = k := by
  induction k with
  | zero => rfl
  | succ k ih => simp [bitsN, ih]
theorem bitsN_add (x a b : Nat) : bitsN x (a + b) = bitsN (x / 2 ^ b) a ++ bitsN x b := by
  induction a with
  | zero => simp [bitsN]
  | succ a ih =>
    rw [show a + 1 + b = (a + b) + 1 by omega]
    simp only [bitsN, ih, List.cons_append]
    rw [Nat.div_div_eq_div_mul, ← Nat.pow_add, Nat.add_comm b a]
theorem bitsN_mod (x k j : Nat) (h : k ≤ j) : bitsN (x % 2 ^ j) k = bitsN x k := by
  induction k with
  | zero => rfl
  | succ k ih =>
    simp only [bitsN, ih (by omega)]
    congr 1
    rw [show j = k + (j - k) by omega, Nat.pow_add, Nat.mod_mul_right_div_self, Nat.mod_mod_of_dvd]
    exact ⟨2 ^ (j - k - 1), by rw [← Nat.pow_succ']; congr 1; omega⟩
theorem bitsN_join (x c a k : Nat) (hc : c < 2 ^ k) : bitsN (x * 2 ^ k + c) (a + k) = bitsN x a ++ bitsN c k := by
  have hp : 0 < 2 ^ k := Nat.two_pow_pos k
  rw [bitsN_add]
  congr 1
  · rw [Nat.mul_comm, Nat.mul_add_div hp, Nat.div_eq_of_lt hc, Nat.add_zero]
  · rw [← bitsN_mod _ k k (Nat.le_refl _), Nat.mul_add_mod', Nat.mod_eq_of_lt hc]
theorem bitsN_inj : ∀ {k x y : Nat}, x < 2 ^ k → y < 2 ^ k → bitsN x k = bitsN y k → x = y
  | 0, x, y, hx, hy, _ => by simp at hx hy; omega
  | k + 1, x, y, hx, hy, h => by
    simp only [bitsN, List.cons.injEq] at h
    obtain ⟨h1, h2⟩ := h
    have hp : 0 < 2 ^ k := Nat.two_pow_pos k
    rw [← bitsN_mod x k k (Nat.le_refl _), ← bitsN_mod y k k (Nat.le_refl _)] at h2
    have h3 := bitsN_inj (Nat.mod_lt _ hp) (Nat.mod_lt _ hp) h2
    have hx2 : x / 2 ^ k < 2 := Nat.div_lt_of_lt_mul (by rw [Nat.pow_succ] at hx; omega)
    have hy2 : y / 2 ^ k < 2 := Nat.div_lt_of_lt_mul (by rw [Nat.pow_succ] at hy; omega)
    rw [Nat.mod_eq_of_lt hx2, Nat.mod_eq_of_lt hy2] at h1
    rw [← Nat.div_add_mod x (2 ^ k), ← Nat.div_add_mod y (2 ^ k), h1, h3]
/-- The bits of bytes. -/
def bitsB : List Nat → List Nat
  | [] => []
  | b :: r => bitsN b 8 ++ bitsB r
theorem bitsB_append (xs ys : List Nat) : bitsB (xs ++ ys) = bitsB xs ++ bitsB ys := by
  induction xs with
  | nil => rfl
  | cons x xs ih => simp [bitsB, ih]
theorem bitsB_length (xs : List Nat) : (bitsB xs).length = 8 * xs.length := by
  induction xs with
  | nil => rfl
  | cons x xs ih => simp [bitsB, ih, bitsN_length]; omega
theorem bitsB_inj : ∀ {xs ys : List Nat}, (∀ x ∈ xs, x < 256) → (∀ y ∈ ys, y < 256) → bitsB xs = bitsB ys → xs = ys
  | [], [], _, _, _ => rfl
  | [], y :: ys, _, _, h => by have := congrArg List.length h; rw [bitsB_length, bitsB_length] at this; simp at this
  | x :: xs, [], _, _, h => by have := congrArg List.length h; rw [bitsB_length, bitsB_length] at this; simp at this
  | x :: xs, y :: ys, hx, hy, h => by
    simp only [bitsB] at h
    have h2 := List.append_inj h (by simp [bitsN_length])
    have e1 := bitsN_inj (k := 8) (hx x (by simp)) (hy y (by simp)) h2.1
    have e2 := bitsB_inj (fun z hz => hx z (by simp [hz])) (fun z hz => hy z (by simp [hz])) h2.2
    rw [e1, e2]

/-- A prefix code of 257 symbols, at most 30 bits each; the last one is all ones. -/
structure Code (L C : Nat → Nat) : Prop where
  pos : ∀ s, s < 257 → 1 ≤ L s ∧ L s ≤ 30
  lt : ∀ s, s < 257 → C s < 2 ^ L s
  free : ∀ s t, s < 257 → t < 257 → L t ≤ L s → C s / 2 ^ (L s - L t) = C t → s = t
  eosL : L 256 = 30
  eosC : C 256 = 1073741823

section
variable {L C : Nat → Nat}
/-- The bits of a string's code. -/
def hbits (L C : Nat → Nat) : List Nat → List Nat
  | [] => []
  | x :: r => bitsN (C x) (L x) ++ hbits L C r
theorem hbits_append (xs ys : List Nat) : hbits L C (xs ++ ys) = hbits L C xs ++ hbits L C ys := by
  induction xs with
  | nil => rfl
  | cons x xs ih => simp [hbits, ih]
/-- The symbol of a code. -/
def Look (L C : Nat → Nat) (look : Nat → Nat → Option Nat) : Prop := ∀ k n s, look k n = some s ↔ s < 257 ∧ L s = k ∧ C s = n

/-- One bit is read: none: an error. -/
def step (look : Nat → Nat → Option Nat) (st : List Nat × Nat × Nat) (bit : Nat) : Option (List Nat × Nat × Nat) :=
  if 30 < st.2.1 + 1 then none else
  match look (st.2.1 + 1) (st.2.2 * 2 + bit) with
  | some s => if s = 256 then none else some (st.1 ++ [s], 0, 0)
  | none => some (st.1, st.2.1 + 1, st.2.2 * 2 + bit)
/-- All bits are read. -/
def steps (look : Nat → Nat → Option Nat) : List Nat → List Nat × Nat × Nat → Option (List Nat × Nat × Nat)
  | [], st => some st
  | b :: r, st => match step look st b with
    | none => none
    | some st' => steps look r st'
theorem steps_append (look : Nat → Nat → Option Nat) (xs ys : List Nat) (st : List Nat × Nat × Nat) : steps look (xs ++ ys) st = match steps look xs st with
    | none => none
    | some st' => steps look ys st' := by
  induction xs generalizing st with
  | nil => rfl
  | cons x xs ih =>
    simp only [List.cons_append, steps]
    cases step look st x with
    | none => rfl
    | some st' => exact ih st'

/-- Within a code nothing is found. -/
theorem look_within (hC : Code L C) {look : Nat → Nat → Option Nat} (hl : Look L C look) {s k : Nat} (hs : s < 257) (hk : k < L s) : look k (C s / 2 ^ (L s - k)) = none := by
  cases h : look k (C s / 2 ^ (L s - k)) with
  | none => rfl
  | some t =>
    obtain ⟨ht, hL, hc⟩ := (hl _ _ _).1 h
    have := hC.free s t hs ht (by omega) (by rw [hL, hc])
    subst this
    omega
theorem read_part (hC : Code L C) {look : Nat → Nat → Option Nat} (hl : Look L C look) {s : Nat} (hs : s < 257) (acc : List Nat) : ∀ (j : Nat), j < L s →
    steps look (bitsN (C s / 2 ^ (L s - j)) j) (acc, 0, 0) = some (acc, j, C s / 2 ^ (L s - j)) := by
  intro j
  induction j with
  | zero =>
    intro h
    simp only [bitsN, steps, Nat.sub_zero]
    rw [Nat.div_eq_of_lt (hC.lt s hs)]
  | succ j ih =>
    intro h
    have h30 := (hC.pos s hs).2
    have hd : C s / 2 ^ (L s - (j + 1)) / 2 = C s / 2 ^ (L s - j) := by
      rw [Nat.div_div_eq_div_mul, ← Nat.pow_succ]; congr 2; omega
    have hb := bitsN_add (C s / 2 ^ (L s - (j + 1))) j 1
    rw [Nat.pow_one, hd] at hb
    rw [hb, steps_append, ih (by omega)]
    simp only [bitsN, steps, step, Nat.pow_zero, Nat.div_one]
    have he : C s / 2 ^ (L s - j) * 2 + C s / 2 ^ (L s - (j + 1)) % 2 = C s / 2 ^ (L s - (j + 1)) := by rw [← hd]; omega
    rw [he, if_neg (by omega), look_within hC hl hs h]
/-- A symbol is read. -/
theorem read_one (hC : Code L C) {look : Nat → Nat → Option Nat} (hl : Look L C look) {s : Nat} (hs : s < 256) (acc : List Nat) : steps look (bitsN (C s) (L s)) (acc, 0, 0) = some (acc ++ [s], 0, 0) := by
  have hs' : s < 257 := by omega
  obtain ⟨h1, h30⟩ := hC.pos s hs'
  have hb := bitsN_add (C s) (L s - 1) 1
  rw [show L s - 1 + 1 = L s by omega] at hb
  have hp := read_part hC hl hs' acc (L s - 1) (by omega)
  rw [show L s - (L s - 1) = 1 by omega] at hp
  rw [hb, steps_append, hp]
  simp only [bitsN, steps, step, Nat.pow_zero, Nat.div_one, Nat.pow_one]
  rw [show C s / 2 * 2 + C s % 2 = C s by omega, show L s - 1 + 1 = L s by omega, if_neg (by omega), (hl _ _ _).2 ⟨hs', rfl, rfl⟩]
  simp only [if_neg (show ¬ s = 256 by omega)]
theorem read_all (hC : Code L C) {look : Nat → Nat → Option Nat} (hl : Look L C look) (xs acc : List Nat) (hx : ∀ x ∈ xs, x < 256) : steps look (hbits L C xs) (acc, 0, 0) = some (acc ++ xs, 0, 0) := by
  induction xs generalizing acc with
  | nil => simp [hbits, steps]
  | cons x xs ih =>
    simp only [hbits]
    rw [steps_append, read_one hC hl (hx x (by simp))]
    simp only
    rw [ih _ fun y hy => hx y (by simp [hy])]
    simp
/-- The filling is read. -/
theorem read_pad (hC : Code L C) {look : Nat → Nat → Option Nat} (hl : Look L C look) (acc : List Nat) {p : Nat} (hp : p < 8) : steps look (bitsN (2 ^ p - 1) p) (acc, 0, 0) = some (acc, p, 2 ^ p - 1) := by
  have h := read_part hC hl (s := 256) (by omega) acc p (by rw [hC.eosL]; omega)
  rw [hC.eosL, hC.eosC] at h
  have e : 1073741823 / 2 ^ (30 - p) = 2 ^ p - 1 := by
    rcases (show p = 0 ∨ p = 1 ∨ p = 2 ∨ p = 3 ∨ p = 4 ∨ p = 5 ∨ p = 6 ∨ p = 7 by omega) with rfl | rfl | rfl | rfl | rfl | rfl | rfl | rfl <;> rfl
  rwa [e] at h
theorem read_whole (hC : Code L C) {look : Nat → Nat → Option Nat} (hl : Look L C look) (xs : List Nat) (hx : ∀ x ∈ xs, x < 256) {p : Nat} (hp : p < 8) :
    steps look (hbits L C xs ++ bitsN (2 ^ p - 1) p) ([], 0, 0) = some (xs, p, 2 ^ p - 1) := by
  rw [steps_append, read_all hC hl xs [] hx]
  simp only [List.nil_append]
  exact read_pad hC hl xs hp
end
end Go.Proofs.YthnaobmepfkkpaaDoor
