/-
  Seat b6003647aM: the plain mathematics of the recoding: no Go in sight.
-/
namespace Go.Proofs.Qxb6003647aMods.Pl

def sm (f : Nat → Int) : Nat → Int
  | 0 => 0
  | n + 1 => sm f n + f n

/-- bit j of the number whose little-endian bytes are B -/
def bt (B : Nat → Int) (j : Nat) : Int := B (j / 8) / 2 ^ (j % 8) % 2
/-- what the first t bits of place i weigh -/
def win (B : Nat → Int) (i : Nat) : Nat → Int
  | 0 => 0
  | t + 1 => win B i t + if i * 6 + t < 256 then bt B (i * 6 + t) * 2 ^ t else 0
def cr (B : Nat → Int) : Nat → Int
  | 0 => 0
  | i + 1 => if 32 < cr B i + win B i 6 then 1 else 0
def dg (B : Nat → Int) (i : Nat) : Int := if 32 < cr B i + win B i 6 then cr B i + win B i 6 - 64 else cr B i + win B i 6

theorem bt_01 (B : Nat → Int) (j : Nat) : 0 ≤ bt B j ∧ bt B j ≤ 1 := by unfold bt; omega
theorem two_pow_pos (t : Nat) : (0 : Int) < 2 ^ t := Int.pow_pos (by decide)
theorem pow_step (t : Nat) : (2 : Int) ^ (t + 1) = 2 * 2 ^ t := by rw [Int.pow_succ]; omega

theorem win_bd (B : Nat → Int) (i : Nat) : ∀ t, 0 ≤ win B i t ∧ win B i t ≤ 2 ^ t - 1
  | 0 => by simp [win]
  | t + 1 => by
    have ih := win_bd B i t
    have hp := two_pow_pos t
    have hs := pow_step t
    have hb := bt_01 B (i * 6 + t)
    simp only [win]
    split
    · rcases (show bt B (i * 6 + t) = 0 ∨ bt B (i * 6 + t) = 1 from by omega) with h | h <;> rw [h] <;> omega
    · omega
theorem win6 (B : Nat → Int) (i : Nat) : 0 ≤ win B i 6 ∧ win B i 6 ≤ 63 := by have := win_bd B i 6; omega
theorem cr_01 (B : Nat → Int) : ∀ i, 0 ≤ cr B i ∧ cr B i ≤ 1
  | 0 => by simp [cr]
  | i + 1 => by simp only [cr]; split <;> omega
theorem dg_bd (B : Nat → Int) (i : Nat) : -31 ≤ dg B i ∧ dg B i ≤ 32 := by
  have h1 := win6 B i
  have h2 := cr_01 B i
  unfold dg; split <;> omega
theorem dg_cr (B : Nat → Int) (i : Nat) : dg B i + 64 * cr B (i + 1) = cr B i + win B i 6 := by
  simp only [dg, cr]; split <;> omega
theorem cr_last (B : Nat → Int) : cr B 43 = 0 := by
  have h1 : win B 42 6 = win B 42 4 := by simp [win]
  have h2 := win_bd B 42 4
  have h3 := cr_01 B 42
  show (if 32 < cr B 42 + win B 42 6 then (1 : Int) else 0) = 0
  rw [h1, if_neg (by omega)]

/-! ### the bits added up -/
def bits (B : Nat → Int) : Nat → Int := sm (fun j => if j < 256 then bt B j * 2 ^ j else 0)
theorem pow64 (i : Nat) : (64 : Int) ^ i = 2 ^ (i * 6) := by rw [Nat.mul_comm, Int.pow_mul]; rfl
theorem pow256 (i : Nat) : (256 : Int) ^ i = 2 ^ (i * 8) := by rw [Nat.mul_comm, Int.pow_mul]; rfl
theorem bits_win (B : Nat → Int) (i : Nat) : ∀ t, bits B (i * 6 + t) = bits B (i * 6) + 64 ^ i * win B i t
  | 0 => by simp [win]
  | t + 1 => by
    have ih := bits_win B i t
    show bits B (i * 6 + t) + (if i * 6 + t < 256 then bt B (i * 6 + t) * 2 ^ (i * 6 + t) else 0) = _
    rw [ih]
    simp only [win]
    split
    · rw [Int.pow_add, ← pow64, Int.mul_add]
      have : bt B (i * 6 + t) * (64 ^ i * 2 ^ t) = 64 ^ i * (bt B (i * 6 + t) * 2 ^ t) := by
        rw [← Int.mul_assoc, Int.mul_comm (bt B (i * 6 + t)), Int.mul_assoc]
      omega
    · rw [Int.add_zero, Int.add_zero]
theorem digits_sum (B : Nat → Int) : ∀ k, sm (fun i => dg B i * 64 ^ i) k + cr B k * 64 ^ k = bits B (k * 6)
  | 0 => by simp [sm, cr, bits]
  | k + 1 => by
    have ih := digits_sum B k
    have h1 := bits_win B k 6
    rw [show (k + 1) * 6 = k * 6 + 6 from by omega, h1, ← ih]
    simp only [sm]
    have h2 := dg_cr B k
    have h3 : (64 : Int) ^ (k + 1) = 64 ^ k * 64 := Int.pow_succ _ _
    rw [h3]
    have e1 : cr B (k + 1) * (64 ^ k * 64) = (64 * cr B (k + 1)) * 64 ^ k := by
      rw [Int.mul_comm (64 ^ k) 64, ← Int.mul_assoc, Int.mul_comm (cr B (k + 1)) 64]
    have e2 : dg B k * 64 ^ k + (64 * cr B (k + 1)) * 64 ^ k = (cr B k + win B k 6) * 64 ^ k := by rw [← Int.add_mul, h2]
    rw [Int.add_mul] at e2
    have e3 : win B k 6 * 64 ^ k = 64 ^ k * win B k 6 := Int.mul_comm _ _
    omega

theorem byte_bits (x : Int) (h0 : 0 ≤ x) (h1 : x ≤ 255) : x / 2 ^ 0 % 2 * 2 ^ 0 + x / 2 ^ 1 % 2 * 2 ^ 1 + x / 2 ^ 2 % 2 * 2 ^ 2 + x / 2 ^ 3 % 2 * 2 ^ 3 + x / 2 ^ 4 % 2 * 2 ^ 4 + x / 2 ^ 5 % 2 * 2 ^ 5 + x / 2 ^ 6 % 2 * 2 ^ 6 + x / 2 ^ 7 % 2 * 2 ^ 7 = x := by omega

theorem bits_byte (B : Nat → Int) (k : Nat) (hk : k < 32) (h0 : 0 ≤ B k) (h1 : B k ≤ 255) : bits B (k * 8 + 8) = bits B (k * 8) + B k * 256 ^ k := by
  have hb := byte_bits (B k) h0 h1
  have st : ∀ t, t < 8 → bits B (k * 8 + (t + 1)) = bits B (k * 8 + t) + (B k / 2 ^ t % 2 * 2 ^ t) * 256 ^ k := by
    intro t ht
    show bits B (k * 8 + t) + (if k * 8 + t < 256 then bt B (k * 8 + t) * 2 ^ (k * 8 + t) else 0) = _
    rw [if_pos (by omega)]
    unfold bt
    rw [show (k * 8 + t) / 8 = k from by omega, show (k * 8 + t) % 8 = t from by omega, Int.pow_add, ← pow256, Int.mul_comm (256 ^ k) (2 ^ t), ← Int.mul_assoc]
  have s0 := st 0 (by omega)
  have s1 := st 1 (by omega)
  have s2 := st 2 (by omega)
  have s3 := st 3 (by omega)
  have s4 := st 4 (by omega)
  have s5 := st 5 (by omega)
  have s6 := st 6 (by omega)
  have s7 := st 7 (by omega)
  simp only [Nat.zero_add, Nat.add_zero, Nat.reduceAdd] at s0 s1 s2 s3 s4 s5 s6 s7
  rw [s7, s6, s5, s4, s3, s2, s1, s0]
  conv => rhs; rw [← hb]
  simp only [Int.add_mul]
  omega

theorem bits_bytes (B : Nat → Int) (hB : ∀ k, 0 ≤ B k ∧ B k ≤ 255) : ∀ k, k ≤ 32 → bits B (k * 8) = sm (fun m => B m * 256 ^ m) k
  | 0, _ => by simp [sm, bits]
  | k + 1, h => by
    rw [show (k + 1) * 8 = k * 8 + 8 from by omega, bits_byte B k (by omega) (hB k).1 (hB k).2, bits_bytes B hB k (by omega)]
    rfl

/-- THE RECODING IS EXACT. -/
theorem recode (B : Nat → Int) (hB : ∀ k, 0 ≤ B k ∧ B k ≤ 255) : sm (fun i => dg B i * 64 ^ i) 43 = sm (fun m => B m * 256 ^ m) 32 := by
  have h1 := digits_sum B 43
  have h2 := bits_bytes B hB 32 (by omega)
  have h3 : bits B 258 = bits B 256 := by
    show bits B 256 + (if 256 < 256 then bt B 256 * 2 ^ 256 else 0) + (if 257 < 256 then bt B 257 * 2 ^ 257 else 0) = _
    rw [if_neg (by omega), if_neg (by omega)]; omega
  rw [cr_last, Int.zero_mul, Int.add_zero] at h1
  rw [h1, show 43 * 6 = 258 from rfl, h3]
  exact h2
end Go.Proofs.Qxb6003647aMods.Pl
