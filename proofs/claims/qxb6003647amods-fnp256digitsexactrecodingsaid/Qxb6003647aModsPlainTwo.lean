/-
  Seat b6003647aM: the plain mathematics of the check: limbs in base 256; what one addition does; the two sides are equal.
-/
import Derived.Test.Qxb6003647aModsPlain
namespace Go.Proofs.Qxb6003647aMods.Pl

/-- what 40 limbs weigh -/
def wt (f : Nat → Int) : Int := sm (fun m => f m * 256 ^ m) 40
/-- each limb is a byte -/
def Lim (f : Nat → Int) : Prop := ∀ m, 0 ≤ f m ∧ f m ≤ 255

theorem sm_upd (f : Nat → Int) (p : Nat) (x : Int) : ∀ n, sm (fun m => (if m = p then f m + x else f m) * 256 ^ m) n = sm (fun m => f m * 256 ^ m) n + if p < n then x * 256 ^ p else 0
  | 0 => by simp [sm]
  | n + 1 => by
    have ih := sm_upd f p x n
    simp only [sm]
    rw [ih]
    by_cases e : n = p
    · subst e
      rw [if_pos rfl, if_neg (by omega), if_pos (by omega), Int.add_mul]
      omega
    · rw [if_neg e]
      by_cases h : p < n
      · rw [if_pos h, if_pos (by omega)]; omega
      · rw [if_neg h, if_neg (by omega)]; omega

theorem sm_zero : ∀ n, sm (fun m => (0 : Int) * 256 ^ m) n = 0
  | 0 => rfl
  | n + 1 => by
    have := sm_zero n
    simp only [sm]
    rw [this, Int.zero_mul]
    rfl
theorem wt_zero : wt (fun _ => 0) = 0 := sm_zero 40

theorem sm_nonneg (g : Nat → Int) (hg : ∀ m, 0 ≤ g m) : ∀ n, 0 ≤ sm g n
  | 0 => by simp [sm]
  | n + 1 => by
    have := sm_nonneg g hg n
    have := hg n
    simp only [sm]
    omega
theorem p256_pos (m : Nat) : (0 : Int) < 256 ^ m := Int.pow_pos (by decide)
theorem wt_nonneg {f : Nat → Int} (hf : Lim f) : 0 ≤ wt f := sm_nonneg _ (fun m => Int.mul_nonneg (hf m).1 (Int.le_of_lt (p256_pos m))) 40

/-- limb p takes x in, and keeps what fits -/
def put (f : Nat → Int) (p : Nat) (x : Int) (m : Nat) : Int := if m = p then (f p + x) % 256 else f m
theorem put_lim {f : Nat → Int} (hf : Lim f) (p : Nat) (x : Int) : Lim (put f p x) := by
  intro m
  have := hf m
  unfold put
  split <;> omega
theorem put_wt (f : Nat → Int) (p : Nat) (x : Int) (hp : p < 40) : wt (put f p x) + (f p + x) / 256 * 256 ^ (p + 1) = wt f + x * 256 ^ p := by
  have h := sm_upd f p ((f p + x) % 256 - f p) 40
  rw [if_pos hp] at h
  have e : (fun m => (if m = p then f m + ((f p + x) % 256 - f p) else f m) * (256 : Int) ^ m) = fun m => put f p x m * 256 ^ m := by
    funext m
    unfold put
    by_cases e : m = p
    · subst e; rw [if_pos rfl, if_pos rfl, show f m + ((f m + x) % 256 - f m) = (f m + x) % 256 from by omega]
    · rw [if_neg e, if_neg e]
  rw [e] at h
  show sm (fun m => put f p x m * 256 ^ m) 40 + _ = sm (fun m => f m * 256 ^ m) 40 + _
  rw [h, Int.pow_succ]
  have e2 : (f p + x) / 256 * (256 ^ p * 256) = ((f p + x) / 256 * 256) * 256 ^ p := by
    rw [Int.mul_comm (256 ^ p) 256, ← Int.mul_assoc]
  rw [e2, Int.add_assoc, ← Int.add_mul, show (f p + x) % 256 - f p + (f p + x) / 256 * 256 = x from by omega]

/-- A number at place s: which limb, how far up in it. -/
theorem at_place (v : Int) (s : Nat) : v * 2 ^ (s % 8) * 256 ^ (s / 8) = v * 2 ^ s := by
  rw [pow256, Int.mul_assoc, ← Int.pow_add, show s % 8 + s / 8 * 8 = s from by omega]
theorem shift_bd (v : Int) (r : Nat) (hr : r < 8) (h0 : 0 ≤ v) (h1 : v ≤ 255) : 0 ≤ v * 2 ^ r ∧ v * 2 ^ r ≤ 32640 := by
  match r, hr with
  | 0, _ | 1, _ | 2, _ | 3, _ | 4, _ | 5, _ | 6, _ | 7, _ => omega
/-- Nothing is carried out of the last limb. -/
theorem no_more {f : Nat → Int} (hf : Lim f) {x T : Int} (hx : 0 ≤ x) (h : wt f + x * 256 ^ 40 = T) (hT : T < 256 ^ 40) : x = 0 := by
  have h0 := wt_nonneg hf
  omega

/-! ### equal weights, equal limbs -/
def hn (f : Nat → Int) : Nat → Nat → Int
  | _, 0 => 0
  | k, n + 1 => f k + 256 * hn f (k + 1) n
theorem hn_snoc (f : Nat → Int) : ∀ n k, hn f k (n + 1) = hn f k n + f (k + n) * 256 ^ n
  | 0, k => by simp [hn]
  | n + 1, k => by
    have ih := hn_snoc f n (k + 1)
    have e1 : hn f k (n + 1 + 1) = f k + 256 * hn f (k + 1) (n + 1) := rfl
    have e2 : hn f k (n + 1) = f k + 256 * hn f (k + 1) n := rfl
    rw [e1, e2, ih, show k + 1 + n = k + (n + 1) from by omega, Int.pow_succ]
    have : f (k + (n + 1)) * (256 ^ n * 256) = 256 * (f (k + (n + 1)) * 256 ^ n) := by rw [← Int.mul_assoc, Int.mul_comm]
    omega
theorem hn_sm (f : Nat → Int) : ∀ n, hn f 0 n = sm (fun m => f m * 256 ^ m) n
  | 0 => rfl
  | n + 1 => by
    rw [hn_snoc, hn_sm f n, Nat.zero_add]
    rfl
theorem hn_eq {f g : Nat → Int} (hf : Lim f) (hg : Lim g) : ∀ n k, hn f k n = hn g k n → ∀ j, j < n → f (k + j) = g (k + j)
  | 0, _, _, _, hj => by omega
  | n + 1, k, h, j, hj => by
    have e1 : hn f k (n + 1) = f k + 256 * hn f (k + 1) n := rfl
    have e2 : hn g k (n + 1) = g k + 256 * hn g (k + 1) n := rfl
    rw [e1, e2] at h
    have h1 := hf k
    have h2 := hg k
    cases j with
    | zero => rw [Nat.add_zero]; omega
    | succ j =>
      have := hn_eq hf hg n (k + 1) (by omega) j (by omega)
      rw [show k + (j + 1) = k + 1 + j from by omega]
      exact this
theorem wt_eq {f g : Nat → Int} (hf : Lim f) (hg : Lim g) (h : wt f = wt g) (j : Nat) (hj : j < 40) : f j = g j := by
  have := hn_eq hf hg 40 0 (by rw [hn_sm, hn_sm]; exact h) j hj
  simpa using this

/-! ### the two sides -/
def ps (B : Nat → Int) : Nat → Int := sm (fun i => if 0 < dg B i then dg B i * 2 ^ (6 * i) else 0)
def ng (B : Nat → Int) : Nat → Int := sm (fun i => if dg B i < 0 then -dg B i * 2 ^ (6 * i) else 0)
def by8 (B : Nat → Int) : Nat → Int := sm (fun m => B m * 2 ^ (8 * m))
theorem ps_ng (B : Nat → Int) : ∀ k, ps B k - ng B k = sm (fun i => dg B i * 64 ^ i) k
  | 0 => rfl
  | k + 1 => by
    have ih := ps_ng B k
    show (ps B k + if 0 < dg B k then dg B k * 2 ^ (6 * k) else 0) - (ng B k + if dg B k < 0 then -dg B k * 2 ^ (6 * k) else 0) = sm (fun i => dg B i * 64 ^ i) k + dg B k * 64 ^ k
    rw [pow64, Nat.mul_comm k 6]
    by_cases h1 : 0 < dg B k
    · rw [if_pos h1, if_neg (by omega)]; omega
    · by_cases h2 : dg B k < 0
      · rw [if_neg h1, if_pos h2, Int.neg_mul]; omega
      · have h3 : dg B k = 0 := by omega
        rw [if_neg h1, if_neg h2, h3, Int.zero_mul]; omega
theorem by8_eq (B : Nat → Int) : ∀ k, by8 B k = sm (fun m => B m * 256 ^ m) k
  | 0 => rfl
  | k + 1 => by
    have ih := by8_eq B k
    show by8 B k + B k * 2 ^ (8 * k) = sm (fun m => B m * 256 ^ m) k + B k * 256 ^ k
    rw [ih, pow256, Nat.mul_comm k 8]
theorem sides (B : Nat → Int) (hB : ∀ k, 0 ≤ B k ∧ B k ≤ 255) : ps B 43 = ng B 43 + by8 B 32 := by
  have h1 := ps_ng B 43
  have h2 := recode B hB
  have h3 := by8_eq B 32
  omega

theorem two6 (k : Nat) : (2 : Int) ^ (6 * (k + 1)) = 64 * 2 ^ (6 * k) := by
  rw [show 6 * (k + 1) = 6 * k + 6 from by omega, Int.pow_add]; omega
theorem two8 (k : Nat) : (2 : Int) ^ (8 * (k + 1)) = 256 * 2 ^ (8 * k) := by
  rw [show 8 * (k + 1) = 8 * k + 8 from by omega, Int.pow_add]; omega
theorem term_bd (d c : Int) (h0 : 0 ≤ d) (p : Int) (hp : 0 < p) (hc : d ≤ c) : 0 ≤ d * p ∧ d * p ≤ c * p :=
  ⟨Int.mul_nonneg h0 (Int.le_of_lt hp), Int.mul_le_mul_of_nonneg_right hc (Int.le_of_lt hp)⟩
theorem ps_bd (B : Nat → Int) : ∀ k, 0 ≤ ps B k ∧ ps B k < 2 ^ (6 * k)
  | 0 => by simp [ps, sm]
  | k + 1 => by
    have ih := ps_bd B k
    have hd := dg_bd B k
    have hp := two_pow_pos (6 * k)
    rw [two6]
    show 0 ≤ (ps B k + if 0 < dg B k then dg B k * 2 ^ (6 * k) else 0) ∧ (ps B k + if 0 < dg B k then dg B k * 2 ^ (6 * k) else 0) < _
    split
    · have := term_bd (dg B k) 32 (by omega) _ hp (by omega)
      omega
    · omega
theorem ng_bd (B : Nat → Int) : ∀ k, 0 ≤ ng B k ∧ ng B k < 2 ^ (6 * k)
  | 0 => by simp [ng, sm]
  | k + 1 => by
    have ih := ng_bd B k
    have hd := dg_bd B k
    have hp := two_pow_pos (6 * k)
    rw [two6]
    show 0 ≤ (ng B k + if dg B k < 0 then -dg B k * 2 ^ (6 * k) else 0) ∧ (ng B k + if dg B k < 0 then -dg B k * 2 ^ (6 * k) else 0) < _
    split
    · have := term_bd (-dg B k) 32 (by omega) _ hp (by omega)
      omega
    · omega
theorem by8_bd (B : Nat → Int) (hB : ∀ k, 0 ≤ B k ∧ B k ≤ 255) : ∀ k, 0 ≤ by8 B k ∧ by8 B k < 2 ^ (8 * k)
  | 0 => by simp [by8, sm]
  | k + 1 => by
    have ih := by8_bd B hB k
    have hp := two_pow_pos (8 * k)
    rw [two8]
    show 0 ≤ by8 B k + B k * 2 ^ (8 * k) ∧ by8 B k + B k * 2 ^ (8 * k) < _
    have := term_bd (B k) 255 (hB k).1 _ hp (hB k).2
    omega
theorem pow_le {a b : Nat} (h : a ≤ b) : (2 : Int) ^ a ≤ 2 ^ b := by
  obtain ⟨c, rfl⟩ := Nat.le.dest h
  rw [Int.pow_add]
  have h1 := two_pow_pos a
  have h2 := two_pow_pos c
  have h3 : (2 : Int) ^ a * 1 ≤ 2 ^ a * 2 ^ c := Int.mul_le_mul_of_nonneg_left (by omega) (by omega)
  omega
theorem room : ∃ a b c : Int, (2 : Int) ^ 258 = a ∧ (2 : Int) ^ 256 = b ∧ (256 : Int) ^ 40 = c ∧ 0 < a ∧ 0 < b ∧ b ≤ a ∧ 2 * a ≤ c := by
  refine ⟨_, _, _, rfl, rfl, rfl, two_pow_pos _, two_pow_pos _, pow_le (by omega), ?_⟩
  rw [pow256, ← pow_step]
  exact pow_le (by omega)
theorem ps_small (B : Nat → Int) (k : Nat) (hk : k ≤ 43) : ps B k < 256 ^ 40 := by
  have h1 := ps_bd B k
  have h2 : (2 : Int) ^ (6 * k) ≤ 2 ^ 258 := pow_le (by omega)
  obtain ⟨a, b, c, ea, _, ec, h⟩ := room
  rw [ea] at h2
  rw [ec]
  omega
theorem ng_small (B : Nat → Int) (hB : ∀ k, 0 ≤ B k ∧ B k ≤ 255) (k m : Nat) (hk : k ≤ 43) (hm : m ≤ 32) : ng B k + by8 B m < 256 ^ 40 := by
  have h1 := ng_bd B k
  have h2 : (2 : Int) ^ (6 * k) ≤ 2 ^ 258 := pow_le (by omega)
  have h4 := by8_bd B hB m
  have h5 : (2 : Int) ^ (8 * m) ≤ 2 ^ 256 := pow_le (by omega)
  obtain ⟨a, b, c, ea, eb, ec, h⟩ := room
  rw [ea] at h2
  rw [eb] at h5
  rw [ec]
  omega
end Go.Proofs.Qxb6003647aMods.Pl
