/-
  Seat b6609269aM: what the model's doubles do, in whole numbers. 'V x' is the value of the finite word x >= 0 in units of 2^-1074.
-/
import Ieee.Arith
namespace Go.Proofs.Qxb6609269aMods.Fl
open Ieee

theorem dLeast : double.leastPlace = -1074 := by decide
theorem dBinade : double.binade = 4503599627370496 := by decide
theorem dInf : double.infRung = 9218868437227405312 := by decide
theorem dSign : double.signWeight = 9223372036854775808 := by decide
theorem dFrac : double.fractionBits = 52 := rfl

/-- a finite word, not below nought -/
def Fin (x : Nat) : Prop := x < 9218868437227405312
def mg (x : Nat) : Nat := if x < 4503599627370496 then x else 4503599627370496 + x % 4503599627370496
def sh (x : Nat) : Nat := x / 4503599627370496 - 1
def V (x : Nat) : Nat := mg x * 2 ^ sh x

theorem mg_lt (x : Nat) : mg x < 9007199254740992 := by unfold mg; split <;> omega
theorem sh_le {x : Nat} (h : Fin x) : sh x ≤ 2045 := by unfold Fin at h; unfold sh; omega

theorem read_fin {x : Nat} (h : Fin x) : double.read x = .number false (mg x) (-1074 + (sh x : Int)) := by
  unfold Fin at h
  unfold Format.read
  rw [dSign, dBinade, dInf, dLeast]
  have e1 : x / 9223372036854775808 % 2 = 0 := by omega
  have e2 : x % 9223372036854775808 = x := by omega
  simp only [e1, e2]
  by_cases h1 : x < 4503599627370496
  · rw [if_pos h1]
    unfold mg sh
    rw [if_pos h1]
    have : x / 4503599627370496 = 0 := by omega
    simp [this]
  · rw [if_neg h1, if_pos h]
    unfold mg sh
    rw [if_neg h1]
    simp

/-- a significand c of at most 53 bits at place t makes the word t * 2^52 + c, whose value is c * 2^t -/
theorem V_word (t c : Nat) (hc : c ≤ 9007199254740992) (h : 4503599627370496 ≤ c ∨ t = 0) : V (t * 4503599627370496 + c) = c * 2 ^ t := by
  unfold V mg sh
  rcases h with h | h
  · rw [if_neg (by omega)]
    by_cases e : c = 9007199254740992
    · subst e
      have e1 : (t * 4503599627370496 + 9007199254740992) / 4503599627370496 - 1 = t + 1 := by omega
      have e2 : (t * 4503599627370496 + 9007199254740992) % 4503599627370496 = 0 := by omega
      rw [e1, e2, Nat.pow_succ]
      omega
    · have e1 : (t * 4503599627370496 + c) / 4503599627370496 - 1 = t := by omega
      have e2 : 4503599627370496 + (t * 4503599627370496 + c) % 4503599627370496 = c := by omega
      rw [e1, e2]
  · subst h
    rw [Nat.zero_mul, Nat.zero_add]
    by_cases h1 : c < 4503599627370496
    · rw [if_pos h1]
      have : c / 4503599627370496 - 1 = 0 := by omega
      rw [this]
    · rw [if_neg h1]
      by_cases e : c = 9007199254740992
      · subst e; decide
      · have e1 : c / 4503599627370496 - 1 = 0 := by omega
        have e2 : 4503599627370496 + c % 4503599627370496 = c := by omega
        rw [e1, e2]

/-- To the nearest: half a unit off at most. -/
theorem cut_even (n drop : Nat) : 2 * (Toward.even.cut false n drop * 2 ^ min drop (n.log2 + 2)) ≤ 2 * n + 2 ^ min drop (n.log2 + 2) ∧ 2 * n ≤ 2 * (Toward.even.cut false n drop * 2 ^ min drop (n.log2 + 2)) + 2 ^ min drop (n.log2 + 2) := by
  unfold Toward.cut
  simp only [Nat.one_shiftLeft]
  generalize hg : 2 ^ min drop (n.log2 + 2) = g
  have hgp : 0 < g := by rw [← hg]; exact Nat.pow_pos (by decide)
  have hdm := Nat.div_add_mod n g
  have hlt := Nat.mod_lt n hgp
  generalize n % g = r at *
  generalize hq : n / g = q at *
  have hgq : g * q = q * g := Nat.mul_comm _ _
  cases hb : (decide (g < 2 * r) || g == 2 * r && q % 2 == 1) with
  | true =>
    have : g ≤ 2 * r := by
      simp only [Bool.or_eq_true, decide_eq_true_eq, Bool.and_eq_true, beq_iff_eq] at hb
      omega
    have e : (q + Bool.toNat true) * g = q * g + g := by rw [Nat.add_mul]; simp
    rw [e]
    omega
  | false =>
    have : 2 * r ≤ g := by
      simp only [Bool.or_eq_false_iff, decide_eq_false_iff_not] at hb
      omega
    have e : (q + Bool.toNat false) * g = q * g := by simp
    rw [e]
    omega

theorem pow_split {a b c : Nat} (h : a = b + c) : (2 : Nat) ^ a = 2 ^ b * 2 ^ c := by rw [h, Nat.pow_add]

theorem nearest_eq (mag : Nat) (place : Int) (t c : Nat) (hm : mag ≠ 0) (hlast : max (place + (mag.log2 : Int) - (52 : Nat)) (-1074) = -1074 + (t : Int))
    (hc : Toward.even.cut false (mag <<< (place - (-1074 + (t : Int))).toNat) (-1074 + (t : Int) - place).toNat = c) (hr : t * 4503599627370496 + c < 9218868437227405312) : double.nearest false mag place = t * 4503599627370496 + c := by
  unfold Format.nearest
  rw [if_neg hm, dFrac, dLeast, dBinade, dInf]
  simp only [hlast, hc, Format.word, Bool.false_eq_true, if_false]
  have e1 : (-1074 + (t : Int) - -1074).toNat = t := by omega
  rw [e1]
  exact Nat.min_eq_left (Nat.le_of_lt hr)

/-- The nearest word, in the range of the normal numbers: X is the exact value. -/
theorem nearest_norm (mag p : Nat) (hm : mag ≠ 0) (h1 : 52 ≤ p + mag.log2) (h2 : p + mag.log2 ≤ 1974) :
    Fin (double.nearest false mag (-1074 + (p : Int))) ∧ 9007199254740992 * V (double.nearest false mag (-1074 + (p : Int))) ≤ 9007199254740993 * (mag * 2 ^ p) ∧ 9007199254740992 * (mag * 2 ^ p) ≤ 9007199254740992 * V (double.nearest false mag (-1074 + (p : Int))) + mag * 2 ^ p := by
  have hlo := Nat.log2_self_le hm
  have hhi := @Nat.lt_log2_self mag
  generalize hL : mag.log2 = L at *
  obtain ⟨t, ht⟩ : ∃ t, p + L = t + 52 := ⟨p + L - 52, by omega⟩
  have hlast : max (-1074 + (p : Int) + (L : Int) - (52 : Nat)) (-1074) = -1074 + (t : Int) := by omega
  have key : ∃ c, Toward.even.cut false (mag <<< (-1074 + (p : Int) - (-1074 + (t : Int))).toNat) (-1074 + (t : Int) - (-1074 + (p : Int))).toNat = c ∧ 4503599627370496 ≤ c ∧ c ≤ 9007199254740992 ∧
      9007199254740992 * (c * 2 ^ t) ≤ 9007199254740993 * (mag * 2 ^ p) ∧ 9007199254740992 * (mag * 2 ^ p) ≤ 9007199254740992 * (c * 2 ^ t) + mag * 2 ^ p := by
    by_cases hL52 : L ≤ 52
    · have eu : (-1074 + (p : Int) - (-1074 + (t : Int))).toNat = 52 - L := by omega
      have ed : (-1074 + (t : Int) - (-1074 + (p : Int))).toNat = 0 := by omega
      rw [eu, ed, Nat.shiftLeft_eq]
      have hc := cut_even (mag * 2 ^ (52 - L)) 0
      rw [Nat.zero_min, Nat.pow_zero, Nat.mul_one] at hc
      have ec : Toward.even.cut false (mag * 2 ^ (52 - L)) 0 = mag * 2 ^ (52 - L) := by omega
      refine ⟨_, ec, ?_, ?_, ?_⟩
      · have : 2 ^ L * 2 ^ (52 - L) ≤ mag * 2 ^ (52 - L) := Nat.mul_le_mul_right _ hlo
        rw [← Nat.pow_add, show L + (52 - L) = 52 from by omega] at this
        exact this
      · have : mag * 2 ^ (52 - L) < 2 ^ (L + 1) * 2 ^ (52 - L) := Nat.mul_lt_mul_of_pos_right hhi (Nat.pow_pos (by decide))
        rw [← Nat.pow_add, show L + 1 + (52 - L) = 53 from by omega] at this
        exact Nat.le_of_lt this
      · have : mag * 2 ^ (52 - L) * 2 ^ t = mag * 2 ^ p := by rw [Nat.mul_assoc, ← Nat.pow_add, show 52 - L + t = p from by omega]
        rw [this]
        omega
    · have eu : (-1074 + (p : Int) - (-1074 + (t : Int))).toNat = 0 := by omega
      have ed : (-1074 + (t : Int) - (-1074 + (p : Int))).toNat = L - 52 := by omega
      rw [eu, ed, Nat.shiftLeft_zero]
      have hc := cut_even mag (L - 52)
      rw [hL, show min (L - 52) (L + 2) = L - 52 from by omega] at hc
      generalize Toward.even.cut false mag (L - 52) = c at *
      have eL : 2 ^ L = 4503599627370496 * 2 ^ (L - 52) := by
        rw [show (4503599627370496 : Nat) = 2 ^ 52 from by decide, ← Nat.pow_add, show 52 + (L - 52) = L from by omega]
      have eL1 : 2 ^ (L + 1) = 9007199254740992 * 2 ^ (L - 52) := by
        rw [show (9007199254740992 : Nat) = 2 ^ 53 from by decide, ← Nat.pow_add, show 53 + (L - 52) = L + 1 from by omega]
      rw [eL] at hlo
      rw [eL1] at hhi
      have hgp : 0 < 2 ^ (L - 52) := Nat.pow_pos (by decide)
      have et : 2 ^ t = 2 ^ (L - 52) * 2 ^ p := by rw [← Nat.pow_add, show L - 52 + p = t from by omega]
      have hpp : 0 < 2 ^ p := Nat.pow_pos (by decide)
      rw [et]
      generalize 2 ^ (L - 52) = g at *
      generalize 2 ^ p = P at *
      refine ⟨c, rfl, ?_, ?_, ?_, ?_⟩
      · refine Nat.le_of_not_lt fun h => ?_
        have : c * g ≤ 4503599627370495 * g := Nat.mul_le_mul_right _ (by omega)
        omega
      · refine Nat.le_of_not_lt fun h => ?_
        have : 9007199254740993 * g ≤ c * g := Nat.mul_le_mul_right _ (by omega)
        omega
      · have e3 : 9007199254740992 * (c * (g * P)) = 9007199254740992 * (c * g) * P := by rw [Nat.mul_assoc, Nat.mul_assoc]
        have e4 : 9007199254740993 * (mag * P) = 9007199254740993 * mag * P := by rw [Nat.mul_assoc]
        rw [e3, e4]
        exact Nat.mul_le_mul_right _ (by omega)
      · have e3 : 9007199254740992 * (c * (g * P)) = 9007199254740992 * (c * g) * P := by rw [Nat.mul_assoc, Nat.mul_assoc]
        have e4 : 9007199254740992 * (mag * P) = 9007199254740992 * mag * P := by rw [Nat.mul_assoc]
        rw [e3, e4, ← Nat.add_mul]
        exact Nat.mul_le_mul_right _ (by omega)
  obtain ⟨c, hc, c1, c2, c3, c4⟩ := key
  have hw : double.nearest false mag (-1074 + (p : Int)) = t * 4503599627370496 + c := by
    refine nearest_eq mag (-1074 + (p : Int)) t c hm ?_ hc (by omega)
    rw [hL]; exact hlast
  rw [hw, V_word t c c2 (.inl c1)]
  refine ⟨?_, c3, c4⟩
  unfold Fin
  omega
end Go.Proofs.Qxb6609269aMods.Fl
