/-
  Seat b6002793aM: the plain mathematics of the check: the digits gathered in base 256, the carries.
-/
import Derived.Test.Qxb6002793aModsPlain
namespace Go.Proofs.Qxb6002793aMods.Pl

/-- the accumulator after i rounds -/
def ac (B : Nat → Int) : Nat → Nat → Int
  | 0, _ => 0
  | i + 1, m => if m = 6 * i / 8 then ac B i m + dg B i * 2 ^ (6 * i % 8) else ac B i m

theorem shift_bd (d : Int) (r : Nat) (hr : r < 8) (h0 : -31 ≤ d) (h1 : d ≤ 32) : -4096 ≤ d * 2 ^ r ∧ d * 2 ^ r ≤ 4096 := by
  match r, hr with
  | 0, _ | 1, _ | 2, _ | 3, _ | 4, _ | 5, _ | 6, _ | 7, _ => omega
theorem ac_bd (B : Nat → Int) : ∀ (i m : Nat), -(4096 * (i : Int)) ≤ ac B i m ∧ ac B i m ≤ 4096 * (i : Int)
  | 0, m => by simp [ac]
  | i + 1, m => by
    have ih := ac_bd B i m
    have hd := dg_bd B i
    have hs := shift_bd (dg B i) (6 * i % 8) (by omega) hd.1 hd.2
    simp only [ac]
    split <;> omega

theorem sm_upd (f : Nat → Int) (p : Nat) (x : Int) : ∀ n, sm (fun m => (if m = p then f m + x else f m) * 256 ^ m) n = sm (fun m => f m * 256 ^ m) n + if p < n then x * 256 ^ p else 0
  | 0 => by simp [sm]
  | n + 1 => by
    have ih := sm_upd f p x n
    simp only [sm]
    rw [ih]
    by_cases e : n = p
    · subst e
      rw [if_pos rfl, if_neg (by omega), if_pos (by omega), Int.add_mul]
      omega
    · rw [if_neg e]
      by_cases h : p < n
      · rw [if_pos h, if_pos (by omega)]; omega
      · rw [if_neg h, if_neg (by omega)]; omega

theorem sm_zero : ∀ n, sm (fun m => (0 : Int) * 256 ^ m) n = 0
  | 0 => rfl
  | n + 1 => by
    have := sm_zero n
    simp only [sm]
    rw [this, Int.zero_mul]
    rfl

theorem ac_sum (B : Nat → Int) : ∀ i, i ≤ 43 → sm (fun m => ac B i m * 256 ^ m) 36 = sm (fun j => dg B j * 64 ^ j) i
  | 0, _ => sm_zero 36
  | i + 1, h => by
    have ih := ac_sum B i (by omega)
    have := sm_upd (ac B i) (6 * i / 8) (dg B i * 2 ^ (6 * i % 8)) 36
    rw [ih, if_pos (by omega)] at this
    show sm (fun m => (if m = 6 * i / 8 then ac B i m + dg B i * 2 ^ (6 * i % 8) else ac B i m) * 256 ^ m) 36 = sm (fun j => dg B j * 64 ^ j) i + dg B i * 64 ^ i
    rw [this, pow256, Int.mul_assoc, ← Int.pow_add, pow64, show 6 * i % 8 + 6 * i / 8 * 8 = i * 6 from by omega]

/-! ### Horner -/
def hn (f : Nat → Int) : Nat → Nat → Int
  | _, 0 => 0
  | k, n + 1 => f k + 256 * hn f (k + 1) n
theorem hn_snoc (f : Nat → Int) : ∀ n k, hn f k (n + 1) = hn f k n + f (k + n) * 256 ^ n
  | 0, k => by simp [hn]
  | n + 1, k => by
    have ih := hn_snoc f n (k + 1)
    have e1 : hn f k (n + 1 + 1) = f k + 256 * hn f (k + 1) (n + 1) := rfl
    have e2 : hn f k (n + 1) = f k + 256 * hn f (k + 1) n := rfl
    rw [e1, e2, ih, show k + 1 + n = k + (n + 1) from by omega, Int.pow_succ]
    have : f (k + (n + 1)) * (256 ^ n * 256) = 256 * (f (k + (n + 1)) * 256 ^ n) := by rw [← Int.mul_assoc, Int.mul_comm]
    omega
theorem hn_sm (f : Nat → Int) : ∀ n, hn f 0 n = sm (fun m => f m * 256 ^ m) n
  | 0 => rfl
  | n + 1 => by
    rw [hn_snoc, hn_sm f n, Nat.zero_add]
    rfl

/-! ### the carries -/
def cy (A : Nat → Int) : Nat → Int
  | 0 => 0
  | k + 1 => (A k + cy A k) / 256
theorem cy_bd (A : Nat → Int) (hA : ∀ m, -200000 ≤ A m ∧ A m ≤ 200000) : ∀ k, -200000 ≤ cy A k ∧ cy A k ≤ 200000
  | 0 => by simp [cy]
  | k + 1 => by
    have ih := cy_bd A hA k
    have h := hA k
    simp only [cy]
    omega
theorem cy_law (A T : Nat → Int) (hT : ∀ m, 0 ≤ T m ∧ T m ≤ 255) (n : Nat) (h : hn A 0 n = hn T 0 n) : ∀ k r, k + r = n → cy A k + hn A k r = hn T k r
  | 0, r, e => by
    obtain rfl : r = n := by omega
    simp [cy, h]
  | k + 1, r, e => by
    have ih := cy_law A T hT n h k (r + 1) (by omega)
    have e1 : hn A k (r + 1) = A k + 256 * hn A (k + 1) r := rfl
    have e2 : hn T k (r + 1) = T k + 256 * hn T (k + 1) r := rfl
    rw [e1, e2] at ih
    have ht := hT k
    simp only [cy]
    omega
theorem cy_digit (A T : Nat → Int) (hT : ∀ m, 0 ≤ T m ∧ T m ≤ 255) (n : Nat) (h : hn A 0 n = hn T 0 n) (k : Nat) (hk : k < n) : (A k + cy A k) % 256 = T k := by
  have ih := cy_law A T hT n h k (n - k - 1 + 1) (by omega)
  have e1 : hn A k (n - k - 1 + 1) = A k + 256 * hn A (k + 1) (n - k - 1) := rfl
  have e2 : hn T k (n - k - 1 + 1) = T k + 256 * hn T (k + 1) (n - k - 1) := rfl
  rw [e1, e2] at ih
  have ht := hT k
  omega
theorem cy_end (A T : Nat → Int) (hT : ∀ m, 0 ≤ T m ∧ T m ≤ 255) (n : Nat) (h : hn A 0 n = hn T 0 n) : cy A n = 0 := by
  have := cy_law A T hT n h n 0 (by omega)
  simpa [hn] using this

/-- the scalar's bytes, little-endian, and noughts behind them -/
def tg (B : Nat → Int) (m : Nat) : Int := if m < 32 then B m else 0
theorem tg_bd (B : Nat → Int) (hB : ∀ k, 0 ≤ B k ∧ B k ≤ 255) (m : Nat) : 0 ≤ tg B m ∧ tg B m ≤ 255 := by
  have := hB m
  unfold tg; split <;> omega
theorem sm_tg (B : Nat → Int) : ∀ n, sm (fun m => tg B m * 256 ^ m) (32 + n) = sm (fun m => B m * 256 ^ m) 32
  | 0 => by
    have : ∀ k, k ≤ 32 → sm (fun m => tg B m * 256 ^ m) k = sm (fun m => B m * 256 ^ m) k := by
      intro k
      induction k with
      | zero => intro _; rfl
      | succ k ih =>
        intro h
        simp only [sm]
        rw [ih (by omega), tg, if_pos (by omega)]
    exact this 32 (by omega)
  | n + 1 => by
    have ih := sm_tg B n
    show sm (fun m => tg B m * 256 ^ m) (32 + n) + tg B (32 + n) * 256 ^ (32 + n) = _
    rw [ih, tg, if_neg (by omega), Int.zero_mul, Int.add_zero]

/-- THE CHECK's NUMBERS AGREE. -/
theorem check (B : Nat → Int) (hB : ∀ k, 0 ≤ B k ∧ B k ≤ 255) : hn (ac B 43) 0 36 = hn (tg B) 0 36 := by
  rw [hn_sm, hn_sm, ac_sum B 43 (by omega), recode B hB, show 36 = 32 + 4 from rfl, sm_tg]
theorem check_digit (B : Nat → Int) (hB : ∀ k, 0 ≤ B k ∧ B k ≤ 255) (k : Nat) (hk : k < 36) : (ac B 43 k + cy (ac B 43) k) % 256 = tg B k :=
  cy_digit _ _ (tg_bd B hB) 36 (check B hB) k hk
theorem check_end (B : Nat → Int) (hB : ∀ k, 0 ≤ B k ∧ B k ≤ 255) : cy (ac B 43) 36 = 0 := cy_end _ _ (tg_bd B hB) 36 (check B hB)
theorem check_bd (B : Nat → Int) (m : Nat) : -200000 ≤ ac B 43 m ∧ ac B 43 m ≤ 200000 := by have := ac_bd B 43 m; omega
end Go.Proofs.Qxb6002793aMods.Pl
