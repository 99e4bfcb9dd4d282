/-
  Seat b6609269aM: the order of doubles; quotients that may be tiny; the constants of the program.
-/
import Derived.Test.Qxb6609269aModsFloatOps
namespace Go.Proofs.Qxb6609269aMods.Fl
open Ieee

/-! ### order -/
theorem order_fin {x y : Nat} (hx : Fin x) (hy : Fin y) : double.order x y = some (compare (V x) (V y)) := by
  unfold Format.order
  rw [read_fin hx, read_fin hy]
  have hvx : V x = mg x * 2 ^ sh x := rfl
  have hvy : V y = mg y * 2 ^ sh y := rfl
  rw [hvx, hvy]
  generalize mg x = m
  generalize mg y = n
  generalize sh x = s
  generalize sh y = t
  have eb : min (-1074 + (s : Int)) (-1074 + (t : Int)) = -1074 + ((min s t : Nat) : Int) := by omega
  have e1 : (-1074 + (s : Int) - (-1074 + ((min s t : Nat) : Int))).toNat = s - min s t := by omega
  have e2 : (-1074 + (t : Int) - (-1074 + ((min s t : Nat) : Int))).toNat = t - min s t := by omega
  simp only [Datum.order, eb, e1, e2, signed, Bool.false_eq_true, if_false, Nat.shiftLeft_eq]
  have a1 : m * 2 ^ s = m * 2 ^ (s - min s t) * 2 ^ min s t := by rw [Nat.mul_assoc, ← Nat.pow_add, show s - min s t + min s t = s from by omega]
  have a2 : n * 2 ^ t = n * 2 ^ (t - min s t) * 2 ^ min s t := by rw [Nat.mul_assoc, ← Nat.pow_add, show t - min s t + min s t = t from by omega]
  rw [a1, a2]
  have hp : 0 < 2 ^ min s t := Nat.pow_pos (by decide)
  generalize m * 2 ^ (s - min s t) = a
  generalize n * 2 ^ (t - min s t) = b
  generalize 2 ^ min s t = P at *
  congr 1
  rcases Nat.lt_trichotomy a b with h | h | h
  · have h2 : a * P < b * P := Nat.mul_lt_mul_of_pos_right h hp
    rw [Nat.compare_eq_lt.2 h2]
    exact Int.compare_eq_lt.2 (by omega)
  · subst h
    rw [Nat.compare_eq_eq.2 rfl]
    exact Int.compare_eq_eq.2 rfl
  · have h2 : b * P < a * P := Nat.mul_lt_mul_of_pos_right h hp
    rw [Nat.compare_eq_gt.2 h2]
    exact Int.compare_eq_gt.2 (by omega)
theorem gt_fin {x y : Nat} (hx : Fin x) (hy : Fin y) : (double.order x y == some .gt) = decide (V y < V x) := by
  rw [order_fin hx hy]
  rcases Nat.lt_trichotomy (V x) (V y) with h | h | h
  · rw [Nat.compare_eq_lt.2 h, decide_eq_false (by omega)]; rfl
  · rw [Nat.compare_eq_eq.2 h, decide_eq_false (by omega)]; rfl
  · rw [Nat.compare_eq_gt.2 h, decide_eq_true h]; rfl
theorem ge_fin {x y : Nat} (hx : Fin x) (hy : Fin y) : (double.order x y == some .gt || double.order x y == some .eq) = decide (V y ≤ V x) := by
  rw [order_fin hx hy]
  rcases Nat.lt_trichotomy (V x) (V y) with h | h | h
  · rw [Nat.compare_eq_lt.2 h, decide_eq_false (by omega)]; rfl
  · rw [Nat.compare_eq_eq.2 h, decide_eq_true (by omega)]; rfl
  · rw [Nat.compare_eq_gt.2 h, decide_eq_true (by omega)]; rfl
theorem le_fin {x y : Nat} (hx : Fin x) (hy : Fin y) : (double.order x y == some .lt || double.order x y == some .eq) = decide (V x ≤ V y) := by
  rw [order_fin hx hy]
  rcases Nat.lt_trichotomy (V x) (V y) with h | h | h
  · rw [Nat.compare_eq_lt.2 h, decide_eq_true (by omega)]; rfl
  · rw [Nat.compare_eq_eq.2 h, decide_eq_true (by omega)]; rfl
  · rw [Nat.compare_eq_gt.2 h, decide_eq_false (by omega)]; rfl

theorem fin0 : Fin 0 := by unfold Fin; omega
theorem V0 : V 0 = 0 := by decide

/-! ### words that are no finite numbers, or are below nought -/
/-- Whatever word is at least the finite word c > 0: finite and no less, or the positive infinity. -/
theorem ge_const {x c : Nat} (hx : x < 18446744073709551616) (hc : Fin c) (hc0 : 0 < V c) (h : (double.order x c == some .gt || double.order x c == some .eq) = true) : (Fin x ∧ V c ≤ V x) ∨ x = 9218868437227405312 := by
  by_cases hf : Fin x
  · rw [ge_fin hf hc] at h
    exact .inl ⟨hf, by simpa using h⟩
  · by_cases hi : x = 9218868437227405312
    · exact .inr hi
    · exfalso
      unfold Fin at hf
      have hrc := read_fin hc
      by_cases hs : x < 9223372036854775808
      · have hr : double.read x = .nan false (x - 9218868437227405312) := by
          unfold Format.read
          rw [dSign, dBinade, dInf]
          have e1 : x / 9223372036854775808 % 2 = 0 := by omega
          have e2 : x % 9223372036854775808 = x := by omega
          simp only [e1, e2]
          rw [if_neg (by omega), if_neg (by omega), if_neg (by omega)]
          rfl
        unfold Format.order at h
        rw [hr] at h
        simp [Datum.order] at h
      · obtain ⟨d, hd, hneg⟩ : ∃ d, double.read x = d ∧ d.neg = true := by
          refine ⟨_, rfl, ?_⟩
          unfold Format.read
          rw [dSign]
          have e1 : (x / 9223372036854775808 % 2 == 1) = true := by simp; omega
          simp only [e1]
          split
          · rfl
          · split
            · rfl
            · split <;> rfl
        unfold Format.order at h
        rw [hd, hrc] at h
        cases d with
        | nan a b => simp [Datum.order] at h
        | infinity a =>
          simp [Datum.neg] at hneg
          subst hneg
          simp [Datum.order] at h
        | number s m e =>
          simp [Datum.neg] at hneg
          subst hneg
          have hm0 : 0 < mg c := by
            rcases Nat.eq_zero_or_pos (mg c) with h0 | h0
            · unfold V at hc0; rw [h0, Nat.zero_mul] at hc0; omega
            · exact h0
          have hlt : compare (signed true m (e - min e (-1074 + (sh c : Int))).toNat) (signed false (mg c) (-1074 + (sh c : Int) - min e (-1074 + (sh c : Int))).toNat) = .lt := by
            refine Int.compare_eq_lt.2 ?_
            simp only [signed, if_true, Bool.false_eq_true, if_false, Nat.shiftLeft_eq]
            have : 0 < mg c * 2 ^ (-1074 + (sh c : Int) - min e (-1074 + (sh c : Int))).toNat := Nat.mul_pos hm0 (Nat.pow_pos (by decide))
            omega
          simp [Datum.order, hlt] at h
/-- .. and no more than the finite word c. -/
theorem le_const {x c : Nat} (hc : Fin c) (hx : Fin x ∨ x = 9218868437227405312) (h : (double.order x c == some .lt || double.order x c == some .eq) = true) : Fin x ∧ V x ≤ V c := by
  rcases hx with hx | hx
  · rw [le_fin hx hc] at h
    exact ⟨hx, by simpa using h⟩
  · exfalso
    subst hx
    have hr : double.read 9218868437227405312 = .infinity false := by decide
    unfold Format.order at h
    rw [hr, read_fin hc] at h
    simp [Datum.order] at h

/-! ### the nearest word, whatever the place: how great at most -/
theorem nearest_any (mag : Nat) (place : Int) (b : Nat) (hb : b ≤ 1322) (hm : mag ≠ 0) (h2 : place + mag.log2 ≤ (b : Int) - 1022) : Fin (double.nearest false mag place) ∧ V (double.nearest false mag place) ≤ W (b + 53) := by
  have hhi := @Nat.lt_log2_self mag
  by_cases hn : -1022 ≤ place + mag.log2
  · -- the normal numbers
    generalize hL : mag.log2 = L at *
    obtain ⟨t, ht⟩ : ∃ t : Nat, place + L = -1022 + (t : Int) := ⟨(place + L + 1022).toNat, by omega⟩
    have hlast : max (place + (L : Int) - (52 : Nat)) (-1074) = -1074 + (t : Int) := by omega
    obtain ⟨c, hc⟩ : ∃ c, Toward.even.cut false (mag <<< (place - (-1074 + (t : Int))).toNat) (-1074 + (t : Int) - place).toNat = c := ⟨_, rfl⟩
    have hcb : 4503599627370496 ≤ c ∧ c ≤ 9007199254740992 := by
      have hlo := Nat.log2_self_le hm
      rw [hL] at hlo
      rw [← hc]
      by_cases hL52 : L ≤ 52
      · have eu : (place - (-1074 + (t : Int))).toNat = 52 - L := by omega
        have ed : (-1074 + (t : Int) - place).toNat = 0 := by omega
        rw [eu, ed, Nat.shiftLeft_eq]
        have hc := cut_even (mag * 2 ^ (52 - L)) 0
        rw [Nat.zero_min, Nat.pow_zero, Nat.mul_one] at hc
        have ec : Toward.even.cut false (mag * 2 ^ (52 - L)) 0 = mag * 2 ^ (52 - L) := by omega
        rw [ec]
        constructor
        · have : 2 ^ L * 2 ^ (52 - L) ≤ mag * 2 ^ (52 - L) := Nat.mul_le_mul_right _ hlo
          rw [← Nat.pow_add, show L + (52 - L) = 52 from by omega] at this
          exact this
        · have : mag * 2 ^ (52 - L) < 2 ^ (L + 1) * 2 ^ (52 - L) := Nat.mul_lt_mul_of_pos_right hhi (Nat.pow_pos (by decide))
          rw [← Nat.pow_add, show L + 1 + (52 - L) = 53 from by omega] at this
          exact Nat.le_of_lt this
      · have eu : (place - (-1074 + (t : Int))).toNat = 0 := by omega
        have ed : (-1074 + (t : Int) - place).toNat = L - 52 := by omega
        rw [eu, ed, Nat.shiftLeft_zero]
        have hc := cut_even mag (L - 52)
        rw [hL, show min (L - 52) (L + 2) = L - 52 from by omega] at hc
        generalize Toward.even.cut false mag (L - 52) = c at *
        have eL : 2 ^ L = 4503599627370496 * 2 ^ (L - 52) := by
          rw [show (4503599627370496 : Nat) = 2 ^ 52 from by decide, ← Nat.pow_add, show 52 + (L - 52) = L from by omega]
        have eL1 : 2 ^ (L + 1) = 9007199254740992 * 2 ^ (L - 52) := by
          rw [show (9007199254740992 : Nat) = 2 ^ 53 from by decide, ← Nat.pow_add, show 53 + (L - 52) = L + 1 from by omega]
        rw [eL] at hlo
        rw [eL1] at hhi
        have hgp : 0 < 2 ^ (L - 52) := Nat.pow_pos (by decide)
        generalize 2 ^ (L - 52) = g at *
        constructor
        · refine Nat.le_of_not_lt fun h => ?_
          have : c * g ≤ 4503599627370495 * g := Nat.mul_le_mul_right _ (by omega)
          omega
        · refine Nat.le_of_not_lt fun h => ?_
          have : 9007199254740993 * g ≤ c * g := Nat.mul_le_mul_right _ (by omega)
          omega
    have hw := nearest_eq mag place t c hm (by rw [hL]; exact hlast) hc (by omega)
    rw [hw, V_word t c hcb.2 (.inl hcb.1)]
    refine ⟨by unfold Fin; omega, ?_⟩
    have h1 : c * 2 ^ t ≤ W 53 * W t := Nat.mul_le_mul_right _ hcb.2
    rw [← W_add] at h1
    exact Nat.le_trans h1 (W_mono (by omega))
  · -- the subnormal ones
    have hlast : max (place + (mag.log2 : Int) - (52 : Nat)) (-1074) = -1074 + ((0 : Nat) : Int) := by omega
    obtain ⟨c, hc⟩ : ∃ c, Toward.even.cut false (mag <<< (place - (-1074 + ((0 : Nat) : Int))).toNat) (-1074 + ((0 : Nat) : Int) - place).toNat = c := ⟨_, rfl⟩
    have hcb : c ≤ 9007199254740992 := by
      rw [← hc]
      by_cases hp : -1074 ≤ place
      · have ed : (-1074 + ((0 : Nat) : Int) - place).toNat = 0 := by omega
        obtain ⟨u, hu⟩ : ∃ u : Nat, (place - (-1074 + ((0 : Nat) : Int))).toNat = u := ⟨_, rfl⟩
        rw [ed, hu, Nat.shiftLeft_eq]
        have hc := cut_even (mag * 2 ^ u) 0
        rw [Nat.zero_min, Nat.pow_zero, Nat.mul_one] at hc
        have : mag * 2 ^ u < 2 ^ (mag.log2 + 1) * 2 ^ u := Nat.mul_lt_mul_of_pos_right hhi (Nat.pow_pos (by decide))
        rw [← Nat.pow_add] at this
        have h3 : (2 : Nat) ^ (mag.log2 + 1 + u) ≤ 2 ^ 52 := Nat.pow_le_pow_right (by decide) (by omega)
        have h4 : (2 : Nat) ^ 52 = 4503599627370496 := by decide
        omega
      · have eu : (place - (-1074 + ((0 : Nat) : Int))).toNat = 0 := by omega
        obtain ⟨d, hd⟩ : ∃ d : Nat, (-1074 + ((0 : Nat) : Int) - place).toNat = d := ⟨_, rfl⟩
        rw [eu, hd, Nat.shiftLeft_zero]
        have hc := cut_even mag d
        have hmin : mag.log2 + 1 ≤ min d (mag.log2 + 2) + 53 := by omega
        have hgp : 0 < 2 ^ min d (mag.log2 + 2) := Nat.pow_pos (by decide)
        have h3 : mag < 9007199254740992 * 2 ^ min d (mag.log2 + 2) := by
          have : (2 : Nat) ^ (mag.log2 + 1) ≤ 2 ^ (min d (mag.log2 + 2) + 53) := Nat.pow_le_pow_right (by decide) hmin
          rw [Nat.pow_add 2 (min d (mag.log2 + 2)) 53, show (2 : Nat) ^ 53 = 9007199254740992 from by decide] at this
          omega
        generalize 2 ^ min d (mag.log2 + 2) = g at *
        refine Nat.le_of_not_lt fun h => ?_
        have : 9007199254740993 * g ≤ Toward.even.cut false mag d * g := Nat.mul_le_mul_right _ (by omega)
        omega
    have hw := nearest_eq mag place 0 c hm hlast hc (by omega)
    rw [hw, V_word 0 c hcb (.inr rfl)]
    refine ⟨by unfold Fin; omega, ?_⟩
    rw [Nat.pow_zero, Nat.mul_one]
    exact Nat.le_trans hcb (W_mono (a := 53) (by omega))

/-! ### the constants -/
/-- A normal word's value lies in its binade. -/
theorem V_bin {x : Nat} (h : 4503599627370496 ≤ x) : W (sh x + 52) ≤ V x ∧ V x < W (sh x + 53) := by
  have h1 : 4503599627370496 ≤ mg x := by unfold mg; rw [if_neg (by omega)]; omega
  have h2 := mg_lt x
  have e1 : W 52 = 4503599627370496 := by decide
  have e2 : W 53 = 9007199254740992 := by decide
  rw [Nat.add_comm, Nat.add_comm (sh x), W_add, W_add, e1, e2]
  exact ⟨Nat.mul_le_mul_right _ h1, Nat.mul_lt_mul_of_pos_right h2 (W_pos _)⟩
theorem V_at {x s : Nat} (h : 4503599627370496 ≤ x) (hs : x / 4503599627370496 - 1 = s) : W (s + 52) ≤ V x ∧ V x < W (s + 53) := by
  have := V_bin h
  have e : sh x = s := hs
  rwa [e] at this

theorem V_eq (x : Nat) : V x = mg x * W (sh x) := rfl
theorem c1_fin : Fin 4607182418800017408 := by unfold Fin; omega
theorem c1_V : V 4607182418800017408 = W 1074 := by
  rw [V_eq, show mg 4607182418800017408 = 4503599627370496 from by decide, show sh 4607182418800017408 = 1022 from by decide, show (4503599627370496 : Nat) = W 52 from by decide, ← W_add]
theorem lo_fin : Fin 4517329193108106637 := by unfold Fin; omega
theorem lo_V : W 1054 ≤ V 4517329193108106637 ∧ V 4517329193108106637 < W 1055 := V_at (s := 1002) (by omega) (by omega)
theorem hi_fin : Fin 4696837146684686336 := by unfold Fin; omega
theorem hi_V : W 1093 ≤ V 4696837146684686336 ∧ V 4696837146684686336 < W 1094 := V_at (s := 1041) (by omega) (by omega)
theorem c34_fin : Fin 4604930618986332160 := by unfold Fin; omega
theorem c34_V : W 1073 ≤ V 4604930618986332160 ∧ V 4604930618986332160 < W 1074 := V_at (s := 1021) (by omega) (by omega)
theorem c14_fin : Fin 4598175219545276416 := by unfold Fin; omega
theorem c14_V : W 1072 ≤ V 4598175219545276416 ∧ V 4598175219545276416 < W 1073 := V_at (s := 1020) (by omega) (by omega)
theorem c22_fin : Fin 4612136378390124954 := by unfold Fin; omega
theorem c22_V : W 1075 ≤ V 4612136378390124954 ∧ V 4612136378390124954 < W 1076 := V_at (s := 1023) (by omega) (by omega)
theorem c12_fin : Fin 4608083138725491507 := by unfold Fin; omega
theorem c12_V : W 1074 ≤ V 4608083138725491507 ∧ V 4608083138725491507 < W 1075 := V_at (s := 1022) (by omega) (by omega)
theorem c23_fin : Fin 4612136378615304935 := by unfold Fin; omega
theorem c23_V : W 1075 ≤ V 4612136378615304935 ∧ V 4612136378615304935 < W 1076 := V_at (s := 1023) (by omega) (by omega)
/-- 2.2000001 against 2.2 -/
theorem c23_c22 : 4953959590107546 * V 4612136378615304935 = 4953959815287527 * V 4612136378390124954 := by
  rw [V_eq, V_eq, show mg 4612136378615304935 = 4953959815287527 from by decide, show sh 4612136378615304935 = 1023 from by decide, show mg 4612136378390124954 = 4953959590107546 from by decide, show sh 4612136378390124954 = 1023 from by decide]
  generalize W 1023 = w
  omega
end Go.Proofs.Qxb6609269aMods.Fl
