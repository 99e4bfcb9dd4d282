/-
  Seat b6609269aM: sum, product, quotient and order of the model's doubles, in whole numbers.
-/
import Derived.Test.Qxb6609269aModsFloat
namespace Go.Proofs.Qxb6609269aMods.Fl
open Ieee

/-- a power of two behind a name, so that no tactic counts it out -/
def W (k : Nat) : Nat := 2 ^ k
theorem W_pos (k : Nat) : 0 < W k := Nat.pow_pos (by decide)
theorem W_add (a b : Nat) : W (a + b) = W a * W b := Nat.pow_add 2 a b
theorem W_mono {a b : Nat} (h : a ≤ b) : W a ≤ W b := Nat.pow_le_pow_right (by decide) h
theorem W_lt {a b : Nat} (h : W a < W b) : a < b := (Nat.pow_lt_pow_iff_right (by decide)).1 h
theorem W_strict {a b : Nat} (h : a < b) : W a < W b := (Nat.pow_lt_pow_iff_right (by decide)).2 h
theorem W_succ (a : Nat) : W (a + 1) = 2 * W a := by rw [W_add]; show W a * 2 = _; omega

/-- a and b agree within one part in 2^50 -/
def Near (a b : Nat) : Prop := 1125899906842624 * a ≤ 1125899906842625 * b ∧ 1125899906842624 * b ≤ 1125899906842625 * a

theorem near_of {v x : Nat} (h1 : 9007199254740992 * v ≤ 9007199254740993 * x) (h2 : 9007199254740992 * x ≤ 9007199254740992 * v + x) : Near v x := by
  unfold Near; omega

theorem log_lo {T mn k : Nat} (h : W k ≤ T * 2 ^ mn) : k ≤ mn + T.log2 := by
  have h1 : T < 2 ^ (T.log2 + 1) := Nat.lt_log2_self
  have h2 : T * 2 ^ mn < 2 ^ (T.log2 + 1) * 2 ^ mn := Nat.mul_lt_mul_of_pos_right h1 (Nat.pow_pos (by decide))
  rw [← Nat.pow_add] at h2
  have h3 : W k < W (T.log2 + 1 + mn) := Nat.lt_of_le_of_lt h h2
  have := W_lt h3
  omega
theorem log_hi {T mn k : Nat} (hT : T ≠ 0) (h : T * 2 ^ mn < W k) : mn + T.log2 < k := by
  have h1 := Nat.log2_self_le hT
  have h2 : 2 ^ T.log2 * 2 ^ mn ≤ T * 2 ^ mn := Nat.mul_le_mul_right _ h1
  rw [← Nat.pow_add] at h2
  have h3 : W (T.log2 + mn) < W k := Nat.lt_of_le_of_lt h2 h
  have := W_lt h3
  omega

/-! ### sum -/
theorem add_fin {x y : Nat} (hx : Fin x) (hy : Fin y) (h1 : W 52 ≤ V x + V y) (h2 : V x + V y < W 1900) : ∃ r, double.add x y = some r ∧ Fin r ∧ Near (V r) (V x + V y) := by
  have hT : ∃ T mn : Nat, (double.read x).sum (double.read y) = some (.number false T (-1074 + (mn : Int))) ∧ T * 2 ^ mn = V x + V y := by
    rw [read_fin hx, read_fin hy]
    generalize hmx : mg x = m
    generalize hmy : mg y = n
    generalize hsx : sh x = s
    generalize hsy : sh y = t
    have eb : min (-1074 + (s : Int)) (-1074 + (t : Int)) = -1074 + ((min s t : Nat) : Int) := by omega
    have e1 : (-1074 + (s : Int) - (-1074 + ((min s t : Nat) : Int))).toNat = s - min s t := by omega
    have e2 : (-1074 + (t : Int) - (-1074 + ((min s t : Nat) : Int))).toNat = t - min s t := by omega
    have hsum : m * 2 ^ (s - min s t) * 2 ^ min s t + n * 2 ^ (t - min s t) * 2 ^ min s t = V x + V y := by
      unfold V
      rw [hmx, hmy, hsx, hsy, Nat.mul_assoc, Nat.mul_assoc, ← Nat.pow_add, ← Nat.pow_add, show s - min s t + min s t = s from by omega, show t - min s t + min s t = t from by omega]
    refine ⟨m * 2 ^ (s - min s t) + n * 2 ^ (t - min s t), min s t, ?_, by rw [Nat.add_mul]; exact hsum⟩
    simp only [Datum.sum, eb, e1, e2, signed, Bool.false_eq_true, if_false, Nat.shiftLeft_eq]
    generalize m * 2 ^ (s - min s t) = a
    generalize n * 2 ^ (t - min s t) = b
    have e3 : ((a : Int) + (b : Int)).natAbs = a + b := by omega
    have e4 : (if (a : Int) + (b : Int) = 0 then (false && false) else decide ((a : Int) + (b : Int) < 0)) = false := by
      split
      · rfl
      · simp; omega
    rw [e3, e4]
  obtain ⟨T, mn, hsum, hV⟩ := hT
  have hT0 : T ≠ 0 := by
    intro e
    subst e
    rw [Nat.zero_mul] at hV
    have := W_pos 52
    omega
  rw [← hV] at h1 h2 ⊢
  have hn := nearest_norm T mn hT0 (log_lo h1) (by have := log_hi hT0 h2; omega)
  refine ⟨_, ?_, hn.1, near_of hn.2.1 hn.2.2⟩
  unfold Format.add
  rw [hsum]
  rfl

/-! ### product -/
theorem sh_lo {x k : Nat} (h : W k ≤ V x) : k ≤ sh x + 52 := by
  have h1 := mg_lt x
  have h2 : V x < 2 ^ 53 * 2 ^ sh x := Nat.mul_lt_mul_of_pos_right h1 (Nat.pow_pos (by decide))
  rw [← Nat.pow_add] at h2
  have h3 : W k < W (53 + sh x) := Nat.lt_of_le_of_lt h h2
  have := W_lt h3
  omega
theorem mg_pos {x k : Nat} (h : W k ≤ V x) : mg x ≠ 0 := by
  intro e
  unfold V at h
  rw [e, Nat.zero_mul] at h
  have := W_pos k
  omega
theorem sh_hi {x k : Nat} (h0 : mg x ≠ 0) (h : V x ≤ W k) : sh x ≤ k := by
  have h1 : 1 * 2 ^ sh x ≤ mg x * 2 ^ sh x := Nat.mul_le_mul_right _ (by omega)
  have h2 : W (sh x) < W (k + 1) := by
    rw [W_succ]
    have := W_pos k
    have h3 : W (sh x) ≤ V x := by rw [Nat.one_mul] at h1; exact h1
    omega
  have := W_lt h2
  omega

theorem mul_fin {x y : Nat} (hx : Fin x) (hy : Fin y) (x1 : W 700 ≤ V x) (x2 : V x ≤ W 1400) (y1 : W 700 ≤ V y) (y2 : V y ≤ W 1400) : ∃ r, double.mul x y = some r ∧ Fin r ∧ Near (V r * W 1074) (V x * V y) := by
  have sx := sh_lo x1
  have sy := sh_lo y1
  have m0 := mg_pos x1
  have n0 := mg_pos y1
  obtain ⟨p, hp⟩ : ∃ p, sh x + sh y = p + 1074 := ⟨sh x + sh y - 1074, by omega⟩
  have hT0 : mg x * mg y ≠ 0 := Nat.mul_ne_zero m0 n0
  have hX : mg x * mg y * 2 ^ p * W 1074 = V x * V y := by
    have e1 : V x * V y = mg x * mg y * (2 ^ sh x * 2 ^ sh y) := by
      unfold V
      rw [Nat.mul_assoc, Nat.mul_assoc, Nat.mul_left_comm (2 ^ sh x)]
    rw [e1, ← Nat.pow_add, hp, Nat.mul_assoc, show (2 : Nat) ^ (p + 1074) = 2 ^ p * W 1074 from W_add p 1074]
  have lo : W 52 ≤ mg x * mg y * 2 ^ p := by
    refine Nat.le_of_mul_le_mul_right ?_ (W_pos 1074)
    rw [hX, ← W_add]
    have : W 700 * W 700 ≤ V x * V y := Nat.mul_le_mul x1 y1
    rw [← W_add] at this
    exact Nat.le_trans (W_mono (by omega)) this
  have hi : mg x * mg y * 2 ^ p < W 1900 := by
    refine Nat.lt_of_mul_lt_mul_right (a := W 1074) ?_
    rw [hX, ← W_add]
    have : V x * V y ≤ W 1400 * W 1400 := Nat.mul_le_mul x2 y2
    rw [← W_add] at this
    exact Nat.lt_of_le_of_lt this (W_strict (by omega))
  have hn := nearest_norm (mg x * mg y) p hT0 (log_lo lo) (by have := log_hi hT0 hi; omega)
  refine ⟨_, ?_, hn.1, ?_⟩
  · unfold Format.mul
    rw [read_fin hx, read_fin hy]
    simp only [Datum.product, Option.map, Format.write, Bool.xor_self]
    rw [show -1074 + (sh x : Int) + (-1074 + (sh y : Int)) = -1074 + (p : Int) from by omega]
  · have h := near_of hn.2.1 hn.2.2
    rw [← hX]
    unfold Near at h ⊢
    generalize V (double.nearest false (mg x * mg y) (-1074 + (p : Int))) = v at *
    generalize mg x * mg y * 2 ^ p = X at *
    generalize W 1074 = U at *
    rw [← Nat.mul_assoc, ← Nat.mul_assoc, ← Nat.mul_assoc, ← Nat.mul_assoc]
    exact ⟨Nat.mul_le_mul_right _ h.1, Nat.mul_le_mul_right _ h.2⟩

/-! ### quotient -/
theorem quo_read {x y : Nat} (hx : Fin x) (hy : Fin y) (m0 : mg x ≠ 0) (n0 : mg y ≠ 0) :
    ∃ q more : Nat, (double.read x).quotient (double.fractionBits + 2) (double.read y) = some (.number false q (-1074 + (sh x : Int) - (-1074 + (sh y : Int)) - more - 1)) ∧ q ≠ 0 ∧
      more ≤ 106 ∧ 2 ≤ more ∧ q * mg y ≤ mg x * W (more + 1) + mg y ∧ mg x * W (more + 1) ≤ q * mg y + mg y ∧ W 54 * mg y ≤ mg x * W (more + 1) ∧ q.log2 ≤ 56 ∧ W 54 ≤ q := by
  rw [read_fin hx, read_fin hy]
  have hm := mg_lt x
  have hn := mg_lt y
  generalize mg x = m at *
  generalize mg y = n at *
  have lm : m.log2 < 53 := (Nat.log2_lt m0).2 hm
  have ln : n.log2 < 53 := (Nat.log2_lt n0).2 hn
  have m1 := Nat.log2_self_le m0
  have m2 := @Nat.lt_log2_self m
  have n1 := Nat.log2_self_le n0
  have n2 := @Nat.lt_log2_self n
  obtain ⟨more, hmore⟩ : ∃ more, more = double.fractionBits + 2 + n.log2 - m.log2 := ⟨_, rfl⟩
  have hmore' : more + m.log2 = 54 + n.log2 := by rw [hmore, dFrac]; omega
  have hD : W 53 * n < m * W more := by
    have a1 : W 53 * n < W 53 * 2 ^ (n.log2 + 1) := Nat.mul_lt_mul_of_pos_left n2 (W_pos 53)
    have a2 : W 53 * 2 ^ (n.log2 + 1) = 2 ^ m.log2 * W more := by
      show W 53 * W (n.log2 + 1) = W m.log2 * W more
      rw [← W_add, ← W_add, show 53 + (n.log2 + 1) = m.log2 + more from by omega]
    have a3 : 2 ^ m.log2 * W more ≤ m * W more := Nat.mul_le_mul_right _ m1
    omega
  have hD2 : m * W more < W 55 * n := by
    have a1 : m * W more < 2 ^ (m.log2 + 1) * W more := Nat.mul_lt_mul_of_pos_right m2 (W_pos _)
    have a2 : 2 ^ (m.log2 + 1) * W more = W 55 * 2 ^ n.log2 := by
      show W (m.log2 + 1) * W more = W 55 * W n.log2
      rw [← W_add, ← W_add, show m.log2 + 1 + more = 55 + n.log2 from by omega]
    have a3 : W 55 * 2 ^ n.log2 ≤ W 55 * n := Nat.mul_le_mul_left _ n1
    omega
  have hdm := Nat.div_add_mod (m * W more) n
  have hlt := Nat.mod_lt (m * W more) (Nat.pos_of_ne_zero n0)
  have hq0 : W 53 ≤ m * W more / n := (Nat.le_div_iff_mul_le (Nat.pos_of_ne_zero n0)).2 (Nat.le_of_lt hD)
  have hq1 : m * W more / n < W 55 := (Nat.div_lt_iff_lt_mul (Nat.pos_of_ne_zero n0)).2 hD2
  refine ⟨2 * (m * W more / n) + (m * W more % n != 0).toNat, more, ?_, ?_, by omega, by omega, ?_⟩
  · simp only [Datum.quotient, if_neg n0, Nat.shiftLeft_eq, ← hmore, Bool.xor_self]
    rfl
  · have := W_pos 53
    omega
  · rw [W_succ]
    have e1 : m * (2 * W more) = 2 * (m * W more) := by rw [Nat.mul_left_comm]
    rw [e1, show W 54 = 2 * W 53 from W_succ 53, Nat.mul_assoc]
    have hlog : ∀ q : Nat, q < W 57 → q.log2 ≤ 56 := by
      intro q h
      by_cases e : q = 0
      · subst e; decide
      · have := (Nat.log2_lt e).2 h
        omega
    have h57 : W 57 = 4 * W 55 := by rw [W_succ 56, W_succ 55]; omega
    generalize m * W more = D at *
    generalize W 55 = w55 at *
    generalize W 53 = w53 at *
    by_cases hr : D % n = 0
    · have e2 : (D % n != 0).toNat = 0 := by rw [hr]; rfl
      rw [e2, Nat.add_zero]
      have e3 : 2 * (D / n) * n = 2 * (n * (D / n)) := by rw [Nat.mul_assoc, Nat.mul_comm (D / n) n]
      rw [e3]
      refine ⟨by omega, by omega, by omega, hlog _ (by omega), by omega⟩
    · have e2 : (D % n != 0).toNat = 1 := by
        have : (D % n != 0) = true := by simpa using hr
        rw [this]; rfl
      rw [e2]
      have e3 : (2 * (D / n) + 1) * n = 2 * (n * (D / n)) + n := by rw [Nat.add_mul, Nat.mul_assoc, Nat.mul_comm (D / n) n, Nat.one_mul]
      rw [e3]
      refine ⟨by omega, by omega, by omega, hlog _ (by omega), by omega⟩

theorem div_fin {x y : Nat} (hx : Fin x) (hy : Fin y) (x1 : W 700 ≤ V x) (x2 : V x ≤ W 1400) (y1 : W 700 ≤ V y) (y2 : V y ≤ W 1400) : ∃ r, double.div x y = some r ∧ Fin r ∧ Near (V r * V y) (V x * W 1074) := by
  have sx := sh_lo x1
  have sy := sh_lo y1
  have m0 := mg_pos x1
  have n0 := mg_pos y1
  have sx2 := sh_hi m0 x2
  have sy2 := sh_hi n0 y2
  obtain ⟨q, more, hq, q0, hm1, hm2, r1, r2, r3, hlog, h54⟩ := quo_read hx hy m0 n0
  obtain ⟨p, hp⟩ : ∃ p, p + sh y + more + 1 = sh x + 1074 := ⟨sh x + 1074 - sh y - more - 1, by omega⟩
  have hn := nearest_norm q p q0 ?_ (by omega)
  · refine ⟨_, ?_, hn.1, ?_⟩
    · unfold Format.div
      rw [hq]
      simp only [Option.map, Format.write]
      rw [show -1074 + (sh x : Int) - (-1074 + (sh y : Int)) - (more : Int) - 1 = -1074 + (p : Int) from by omega]
    · generalize V (double.nearest false q (-1074 + (p : Int))) = v at *
      have eL : V x * W 1074 = mg x * W (more + 1) * W (p + sh y) := by
        show mg x * W (sh x) * W 1074 = _
        rw [Nat.mul_assoc, Nat.mul_assoc, ← W_add, ← W_add, show sh x + 1074 = more + 1 + (p + sh y) from by omega]
      have eR : q * 2 ^ p * V y = q * mg y * W (p + sh y) := by
        show q * W p * (mg y * W (sh y)) = _
        rw [W_add, Nat.mul_assoc, Nat.mul_assoc, Nat.mul_left_comm (W p)]
      have hn1 := hn.2.1
      have hn2 := hn.2.2
      generalize q * 2 ^ p = X0 at *
      have h1 := Nat.mul_le_mul_right (V y) hn1
      have h2 := Nat.mul_le_mul_right (V y) hn2
      rw [Nat.add_mul, Nat.mul_assoc, Nat.mul_assoc, eR] at h2
      rw [Nat.mul_assoc, Nat.mul_assoc, eR] at h1
      have g1 := Nat.mul_le_mul_right (W (p + sh y)) r1
      have g2 := Nat.mul_le_mul_right (W (p + sh y)) r2
      have g3 := Nat.mul_le_mul_right (W (p + sh y)) r3
      rw [Nat.add_mul] at g1 g2
      rw [Nat.mul_assoc (W 54)] at g3
      rw [← eL] at g1 g2 g3
      generalize q * mg y * W (p + sh y) = Q at *
      generalize mg y * W (p + sh y) = N at *
      generalize V x * W 1074 = X at *
      generalize v * V y = v' at *
      have hw : W 54 = 18014398509481984 := by decide
      rw [hw] at g3
      unfold Near
      omega
  · have : 54 ≤ q.log2 := (Nat.le_log2 q0).2 h54
    omega
end Go.Proofs.Qxb6609269aMods.Fl
