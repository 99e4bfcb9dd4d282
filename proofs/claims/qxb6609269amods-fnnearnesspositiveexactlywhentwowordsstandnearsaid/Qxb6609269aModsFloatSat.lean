/-
  Seat b6609269aM: lengthNorm and saturated, in whole numbers.
-/
import Derived.Test.Qxb6609269aModsFloatUse
namespace Go.Proofs.Qxb6609269aMods.Fl
open Ieee

theorem near_hi {a b : Nat} (h : Near a b) : a ≤ 2 * b := by unfold Near at h; omega
theorem near_lo {a b : Nat} (h : Near a b) : b ≤ 2 * a := by unfold Near at h; omega
/-- from a product's bounds to a factor's -/
theorem fac_hi {v y k l : Nat} (h : v * y ≤ W (k + l)) (hy : W l ≤ y) : v ≤ W k := by
  refine Nat.le_of_mul_le_mul_right ?_ (W_pos l)
  rw [← W_add]
  exact Nat.le_trans (Nat.mul_le_mul_left _ hy) h
theorem fac_lo {v y k l : Nat} (h : W (k + l) ≤ v * y) (hy : y ≤ W l) : W k ≤ v := by
  refine Nat.le_of_mul_le_mul_right ?_ (W_pos l)
  rw [← W_add]
  exact Nat.le_trans h (Nat.mul_le_mul_left _ hy)
theorem pr_hi {x y k l : Nat} (hx : x ≤ W k) (hy : y ≤ W l) : x * y ≤ W (k + l) := by rw [W_add]; exact Nat.mul_le_mul hx hy
theorem pr_lo {x y k l : Nat} (hx : W k ≤ x) (hy : W l ≤ y) : W (k + l) ≤ x * y := by rw [W_add]; exact Nat.mul_le_mul hx hy
theorem up {x k : Nat} {l : Nat} (h : x ≤ W k) (hl : k ≤ l) : x ≤ W l := Nat.le_trans h (W_mono hl)
theorem dn {x k : Nat} {l : Nat} (h : W k ≤ x) (hl : l ≤ k) : W l ≤ x := Nat.le_trans (W_mono hl) h
theorem dbl {x y k : Nat} (h : x ≤ 2 * y) (hy : y ≤ W k) : x ≤ W (k + 1) := by rw [W_succ]; omega
theorem half {x y k : Nat} (h : y ≤ 2 * x) (hy : W (k + 1) ≤ y) : W k ≤ x := by rw [W_succ] at hy; omega

theorem nearest_zero (place : Int) : double.nearest false 0 place = 0 := by unfold Format.nearest; rw [if_pos rfl]; rfl
theorem div_zero {a : Nat} (ha : (Fin a ∧ W 1054 ≤ V a) ∨ a = 9218868437227405312) : double.div 0 a = some 0 := by
  unfold Format.div
  rw [read_fin fin0, show mg 0 = 0 from rfl]
  rcases ha with ⟨hf, hV⟩ | rfl
  · rw [read_fin hf]
    have := mg_pos hV
    simp only [Datum.quotient, if_neg this, Nat.zero_shiftLeft, Nat.zero_div, Nat.zero_mod, Bool.xor_self, Option.map, Format.write]
    rw [show (2 * 0 + (0 != 0 : Bool).toNat) = 0 from rfl, nearest_zero]
  · rw [show double.read 9218868437227405312 = .infinity false from by decide]
    simp only [Datum.quotient, Bool.xor_self, Option.map, Format.write, nearest_zero]
theorem div_inf {m : Nat} (hm : Fin m) : double.div m 9218868437227405312 = some 0 := by
  unfold Format.div
  rw [read_fin hm, show double.read 9218868437227405312 = .infinity false from by decide]
  simp only [Datum.quotient, Bool.xor_self, Option.map, Format.write, nearest_zero]
theorem mul_zero {c : Nat} (hc : Fin c) : double.mul c 0 = some 0 := by
  unfold Format.mul
  rw [read_fin hc, read_fin fin0, show mg 0 = 0 from rfl]
  simp only [Datum.product, Bool.xor_self, Option.map, Format.write, Nat.mul_zero, nearest_zero]

theorem quo_bd {m a : Nat} (hm : Fin m) (m1 : W 1071 ≤ V m) (m2 : V m ≤ W 1106) (ha : (Fin a ∧ W 1054 ≤ V a) ∨ a = 9218868437227405312) : ∃ q, double.div m a = some q ∧ Fin q ∧ V q ≤ W 1127 := by
  rcases ha with ⟨hf, hV⟩ | rfl
  · by_cases hbig : V a ≤ W 1400
    · obtain ⟨q, hq, hqf, hn⟩ := div_fin hm hf (dn m1 (by omega)) (up m2 (by omega)) (dn hV (by omega)) hbig
      refine ⟨q, hq, hqf, fac_hi (l := 1054) ?_ hV⟩
      exact dbl (k := 2180) (near_hi hn) (pr_hi (k := 1106) (l := 1074) m2 (Nat.le_refl _))
    · have m0 := mg_pos m1
      have n0 := mg_pos hV
      have sx := sh_hi m0 m2
      have sy := sh_lo (Nat.le_of_lt (Nat.lt_of_not_le hbig))
      obtain ⟨q, more, hq, q0, hm1, hm2, _, _, _, hlog, _⟩ := quo_read hm hf m0 n0
      have hn := nearest_any q (-1074 + (sh m : Int) - (-1074 + (sh a : Int)) - more - 1) 900 (by omega) q0 (by omega)
      refine ⟨_, ?_, hn.1, up hn.2 (by omega)⟩
      unfold Format.div
      rw [hq]
      rfl
  · exact ⟨0, div_inf hm, fin0, by rw [V0]; exact Nat.zero_le _⟩

theorem norm_end {q : Nat} (hq : Fin q) (h : V q ≤ W 1127) : ∃ r, double.add 4598175219545276416 q = some r ∧ Fin r ∧ W 1071 ≤ V r ∧ V r ≤ W 1130 := by
  have h1 := c14_V
  have e1 : W 1127 + W 1127 = W 1128 := by have := W_succ 1127; simp only [Nat.reduceAdd] at this; omega
  have e2 : W 1073 ≤ W 1127 := W_mono (by omega)
  obtain ⟨r, hr, hrf, hn⟩ := add_fin c14_fin hq (Nat.le_trans (W_mono (a := 52) (b := 1072) (by omega)) (by omega)) (Nat.lt_of_le_of_lt (m := W 1128) (by omega) (W_strict (by omega)))
  refine ⟨r, hr, hrf, half (near_lo hn) (by simp only [Nat.reduceAdd]; omega), up (dbl (k := 1128) (near_hi hn) (by omega)) (by omega)⟩

/-- lengthNorm -/
theorem norm_law (len : Nat) (hl : len ≤ 1073741824) (a : Nat) (ha : (Fin a ∧ W 1054 ≤ V a) ∨ a = 9218868437227405312) :
    ∃ m q r, double.mul 4604930618986332160 (conv len) = some m ∧ double.div m a = some q ∧ double.add 4598175219545276416 q = some r ∧ Fin r ∧ W 1071 ≤ V r ∧ V r ≤ W 1130 := by
  by_cases h0 : len = 0
  · subst h0
    rw [conv_zero]
    obtain ⟨r, hr⟩ := norm_end fin0 (by rw [V0]; exact Nat.zero_le _)
    exact ⟨0, 0, r, mul_zero c34_fin, div_zero ha, hr⟩
  · obtain ⟨cf, c1, c2⟩ := conv_pos len (by omega) hl
    obtain ⟨m, hm, hmf, hn⟩ := mul_fin c34_fin cf (dn c34_V.1 (by omega)) (up (Nat.le_of_lt c34_V.2) (by omega)) (dn c1 (by omega)) (up c2 (by omega))
    have m1 : W 1071 ≤ V m := fac_lo (l := 1074) (half (k := 2145) (near_lo hn) (pr_lo (k := 1073) (l := 1073) c34_V.1 c1)) (Nat.le_refl _)
    have m2 : V m ≤ W 1106 := fac_hi (l := 1074) (dbl (k := 2179) (near_hi hn) (pr_hi (k := 1074) (l := 1105) (Nat.le_of_lt c34_V.2) c2)) (Nat.le_refl _)
    obtain ⟨q, hq, hqf, hq2⟩ := quo_bd hmf m1 m2 ha
    obtain ⟨r, hr⟩ := norm_end hqf hq2
    exact ⟨m, q, r, hm, hq, hr⟩

/-- saturated -/
theorem sat_law {f nrm : Nat} (hf : Fin f) (f1 : W 1068 ≤ V f) (f2 : V f ≤ W 1101) (hn : Fin nrm) (n1 : W 1071 ≤ V nrm) (n2 : V nrm ≤ W 1130) :
    ∃ a b d r, double.mul f 4612136378390124954 = some a ∧ double.mul 4608083138725491507 nrm = some b ∧ double.add f b = some d ∧ double.div a d = some r ∧ Fin r ∧ W 1000 ≤ V r ∧
      1125899906842624 * V r ≤ 1125899906842628 * V 4612136378390124954 := by
  obtain ⟨a, ha, haf, hna⟩ := mul_fin hf c22_fin (dn f1 (by omega)) (up f2 (by omega)) (dn c22_V.1 (by omega)) (up (Nat.le_of_lt c22_V.2) (by omega))
  have a1 : W 1068 ≤ V a := fac_lo (l := 1074) (half (k := 2142) (near_lo hna) (pr_lo (k := 1068) (l := 1075) f1 c22_V.1)) (Nat.le_refl _)
  have a2 : V a ≤ W 1104 := fac_hi (l := 1074) (dbl (k := 2177) (near_hi hna) (pr_hi (k := 1101) (l := 1076) f2 (Nat.le_of_lt c22_V.2))) (Nat.le_refl _)
  obtain ⟨b, hb, hbf, hnb⟩ := mul_fin c12_fin hn (dn c12_V.1 (by omega)) (up (Nat.le_of_lt c12_V.2) (by omega)) (dn n1 (by omega)) (up n2 (by omega))
  have b2 : V b ≤ W 1132 := fac_hi (l := 1074) (dbl (k := 2205) (near_hi hnb) (pr_hi (k := 1075) (l := 1130) (Nat.le_of_lt c12_V.2) n2)) (Nat.le_refl _)
  have e1 : W 1132 + W 1132 = W 1133 := by have := W_succ 1132; simp only [Nat.reduceAdd] at this; omega
  have e2 : W 1101 ≤ W 1132 := W_mono (by omega)
  obtain ⟨d, hd, hdf, hnd⟩ := add_fin hf hbf (Nat.le_trans (W_mono (a := 52) (b := 1068) (by omega)) (by omega)) (Nat.lt_of_le_of_lt (m := W 1133) (by omega) (W_strict (by omega)))
  have d1 : W 1067 ≤ V d := half (near_lo hnd) (by simp only [Nat.reduceAdd]; omega)
  have d2 : V d ≤ W 1134 := dbl (k := 1133) (near_hi hnd) (by omega)
  obtain ⟨r, hr, hrf, hnr⟩ := div_fin haf hdf (dn a1 (by omega)) (up a2 (by omega)) (dn d1 (by omega)) (up d2 (by omega))
  refine ⟨a, b, d, r, ha, hb, hd, hr, hrf, ?_, ?_⟩
  · have : W 1007 ≤ V r := fac_lo (l := 1134) (half (k := 2141) (near_lo hnr) (pr_lo (k := 1068) (l := 1074) a1 (Nat.le_refl _))) d2
    exact dn this (by omega)
  · refine Nat.le_of_mul_le_mul_right ?_ (Nat.lt_of_lt_of_le (W_pos 1067) d1)
    have k1 : 1125899906842624 * V f ≤ 1125899906842625 * V d := by
      have := hnd.2
      omega
    have k2 := Nat.mul_le_mul_right (V 4612136378390124954) k1
    rw [Nat.mul_assoc, Nat.mul_assoc] at k2 ⊢
    rw [Nat.mul_comm (V 4612136378390124954) (V d)]
    have k3 := hna.1
    have k4 := hnr.1
    generalize V r * V d = P at *
    generalize V a * W 1074 = Q at *
    generalize V f * V 4612136378390124954 = R at *
    generalize V d * V 4612136378390124954 = S at *
    omega
end Go.Proofs.Qxb6609269aMods.Fl
