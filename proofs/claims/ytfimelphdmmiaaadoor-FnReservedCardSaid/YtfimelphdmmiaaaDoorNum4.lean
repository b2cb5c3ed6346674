/- Plain numbers and lists: how a variable-length integer is written (RFC 9000, 16), and that it is read back. No program stands here. -/
import Derived.Test.YtfimelphdmmiaaaDoorNum
namespace Go.Proofs.YtfimelphdmmiaaaDoor
open Go Go.RowKit

/-- Byte i of a number. -/
def nb (n : Int) (i : Nat) : Int := n / 256 ^ i % 256
/-- The lowest i bytes of a number, the highest of them first. -/
def vlow (n : Int) : Nat → List Int
  | 0 => []
  | i + 1 => nb n i :: vlow n i
/-- A number in 2^k bytes. -/
def venc (k : Nat) (n : Int) : List Int := match vlow n (2 ^ k) with
  | [] => []
  | h :: t => (h + 64 * k) :: t
/-- The class of a number: how many bytes it wants, as a power of two. -/
def vcls (n : Int) : Nat := if n < 64 then 0 else if n < 16384 then 1 else if n < 1073741824 then 2 else 3
/-- .. and at least so many. -/
def vk (n : Int) (least : Nat) : Nat := max least (vcls n)
/-- Below which numbers have that class. -/
def vtop (k : Nat) : Int := match k with
  | 0 => 64
  | 1 => 16384
  | 2 => 1073741824
  | _ => 4611686018427387904
theorem nb_bound (n : Int) (i : Nat) : 0 ≤ nb n i ∧ nb n i ≤ 255 := by unfold nb; omega
theorem vlow_byt (n : Int) (i : Nat) : Byt (vlow n i) := by
  induction i with
  | zero => exact Byt.nil
  | succ i ih => exact Byt.cons (nb_bound n i).1 (nb_bound n i).2 ih
theorem vlow_length (n : Int) (i : Nat) : (vlow n i).length = i := by
  induction i with
  | zero => rfl
  | succ i ih => simp [vlow, ih]
theorem vcls_le (n : Int) : vcls n ≤ 3 := by unfold vcls; split <;> (try split) <;> (try split) <;> omega
theorem vk_le {n : Int} {least : Nat} (h : least ≤ 3) : vk n least ≤ 3 := by unfold vk; have := vcls_le n; omega
theorem vk_top {n : Int} (least : Nat) (hl : least ≤ 3) (hn : n ≤ 4611686018427387903) : n < vtop (vk n least) := by
  have hk : vcls n ≤ vk n least := by unfold vk; omega
  have hk3 := vk_le (n := n) hl
  unfold vcls at hk
  generalize vk n least = K at *
  rcases (show K = 0 ∨ K = 1 ∨ K = 2 ∨ K = 3 by omega) with rfl | rfl | rfl | rfl <;> simp only [vtop] <;> (split at hk <;> (try split at hk) <;> (try split at hk) <;> omega)
theorem venc_length {k : Nat} (hk : k ≤ 3) (n : Int) : (venc k n).length = 2 ^ k := by
  rcases (show k = 0 ∨ k = 1 ∨ k = 2 ∨ k = 3 by omega) with rfl | rfl | rfl | rfl <;> rfl
theorem venc0 (n : Int) (h0 : 0 ≤ n) (h1 : n < 64) : venc 0 n = [n] := by
  show [n / 256 ^ 0 % 256 + 64 * ((0 : Nat) : Int)] = [n]
  congr 1; simp only [Int.pow_zero]; omega
theorem venc1 (n : Int) : venc 1 n = [n / 256 % 256 + 64, n % 256] := by
  show [n / 256 ^ 1 % 256 + 64 * ((1 : Nat) : Int), n / 256 ^ 0 % 256] = _
  simp
theorem venc2 (n : Int) : venc 2 n = [n / 16777216 % 256 + 128, n / 65536 % 256, n / 256 % 256, n % 256] := by
  show [n / 256 ^ 3 % 256 + 64 * ((2 : Nat) : Int), n / 256 ^ 2 % 256, n / 256 ^ 1 % 256, n / 256 ^ 0 % 256] = _
  simp
theorem venc3 (n : Int) : venc 3 n = [n / 72057594037927936 % 256 + 192, n / 281474976710656 % 256, n / 1099511627776 % 256, n / 4294967296 % 256, n / 16777216 % 256, n / 65536 % 256, n / 256 % 256, n % 256] := by
  show [n / 256 ^ 7 % 256 + 64 * ((3 : Nat) : Int), n / 256 ^ 6 % 256, n / 256 ^ 5 % 256, n / 256 ^ 4 % 256, n / 256 ^ 3 % 256, n / 256 ^ 2 % 256, n / 256 ^ 1 % 256, n / 256 ^ 0 % 256] = _
  simp
/-- What venc writes: its head tells the length, and it reads as the number. -/
theorem venc_read {k : Nat} {n : Int} (hk : k ≤ 3) (h0 : 0 ≤ n) (h1 : n < vtop k) (rest : List Int) :
    ∃ x r, venc k n = x :: r ∧ vlen x = 2 ^ k ∧ r.length + 1 = 2 ^ k ∧ vat x (r ++ rest) (2 ^ k - 1) = n ∧ Byt (x :: r) := by
  rcases (show k = 0 ∨ k = 1 ∨ k = 2 ∨ k = 3 by omega) with rfl | rfl | rfl | rfl <;> simp only [vtop] at h1
  · refine ⟨n, [], venc0 n h0 h1, by unfold vlen; rw [if_pos h1], rfl, ?_, Byt.cons h0 (by omega) Byt.nil⟩
    show n % 64 = n; omega
  · refine ⟨_, _, venc1 n, ?_, rfl, ?_, Byt.cons (by omega) (by omega) (Byt.cons (by omega) (by omega) Byt.nil)⟩
    · unfold vlen; rw [if_neg (by omega), if_pos (by omega)]
    · show (n / 256 % 256 + 64) % 64 * 256 + n % 256 = n; omega
  · refine ⟨_, _, venc2 n, ?_, rfl, ?_, Byt.cons (by omega) (by omega) (Byt.cons (by omega) (by omega) (Byt.cons (by omega) (by omega) (Byt.cons (by omega) (by omega) Byt.nil)))⟩
    · unfold vlen; rw [if_neg (by omega), if_neg (by omega), if_pos (by omega)]
    · show (((n / 16777216 % 256 + 128) % 64 * 256 + n / 65536 % 256) * 256 + n / 256 % 256) * 256 + n % 256 = n; omega
  · refine ⟨_, _, venc3 n, ?_, rfl, ?_, Byt.cons (by omega) (by omega) (Byt.cons (by omega) (by omega) (Byt.cons (by omega) (by omega) (Byt.cons (by omega) (by omega) (Byt.cons (by omega) (by omega) (Byt.cons (by omega) (by omega) (Byt.cons (by omega) (by omega) (Byt.cons (by omega) (by omega) Byt.nil)))))))⟩
    · unfold vlen; rw [if_neg (by omega), if_neg (by omega), if_neg (by omega)]
    · show (((((((n / 72057594037927936 % 256 + 192) % 64 * 256 + n / 281474976710656 % 256) * 256 + n / 1099511627776 % 256) * 256 + n / 4294967296 % 256) * 256 + n / 16777216 % 256) * 256 + n / 65536 % 256) * 256 + n / 256 % 256) * 256 + n % 256 = n
      omega
end Go.Proofs.YtfimelphdmmiaaaDoor
