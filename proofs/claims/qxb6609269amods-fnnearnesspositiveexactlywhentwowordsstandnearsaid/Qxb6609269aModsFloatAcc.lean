/-
  Seat b6609269aM: the two running sums (nearness and its bound) against the exact sum of the lower frequencies; the law's last line.
-/
import Derived.Test.Qxb6609269aModsFloatSat
namespace Go.Proofs.Qxb6609269aMods.Fl
open Ieee

/-- an inverse document frequency that the law lets by -/
def Idf (x : Nat) : Prop := Fin x ∧ W 1054 ≤ V x ∧ V x ≤ W 1094
/-- Go's min of two such -/
def fmin (x y : Nat) : Nat := if V x < V y then x else y
theorem fmin_idf {x y : Nat} (hx : Idf x) (hy : Idf y) : Idf (fmin x y) := by unfold fmin; split <;> assumption
theorem fmin_V (x y : Nat) : V (fmin x y) = min (V x) (V y) := by unfold fmin; split <;> omega

/-- a saturated nearness -/
def Sat (s : Nat) : Prop := Fin s ∧ W 1000 ≤ V s ∧ 1125899906842624 * V s ≤ 1125899906842628 * V 4612136378390124954

theorem term_law {m s : Nat} (hm : Idf m) (hs : Sat s) : ∃ t, double.mul m s = some t ∧ Fin t ∧ W 970 ≤ V t ∧ V t ≤ W 1100 ∧ 1125899906842624 * (V t * W 1074) ≤ 1125899906842630 * (V 4612136378390124954 * V m) := by
  obtain ⟨mf, m1, m2⟩ := hm
  obtain ⟨sf, s1, s2⟩ := hs
  have h22 := c22_V
  have e76 : W 1077 = 2 * W 1076 := by have := W_succ 1076; simpa only [Nat.reduceAdd] using this
  have s3 : V s ≤ W 1077 := by omega
  obtain ⟨t, ht, htf, hn⟩ := mul_fin mf sf (dn m1 (by omega)) (up m2 (by omega)) (dn s1 (by omega)) (up s3 (by omega))
  refine ⟨t, ht, htf, ?_, ?_, ?_⟩
  · have : W 979 ≤ V t := fac_lo (l := 1074) (half (k := 2053) (near_lo hn) (pr_lo (k := 1054) (l := 1000) m1 s1)) (Nat.le_refl _)
    exact dn this (by omega)
  · have : V t ≤ W 1098 := fac_hi (l := 1074) (dbl (k := 2171) (near_hi hn) (pr_hi (k := 1094) (l := 1077) m2 s3)) (Nat.le_refl _)
    exact up this (by omega)
  · have k1 := Nat.mul_le_mul_left (V m) s2
    rw [Nat.mul_left_comm, Nat.mul_left_comm (V m) 1125899906842628, Nat.mul_comm (V m) (V 4612136378390124954)] at k1
    have k2 := hn.1
    generalize V m * V s = P at *
    generalize V t * W 1074 = Q at *
    generalize V 4612136378390124954 * V m = R at *
    omega

/-- x is the running nearness after k near pairs, whose lower frequencies add up to S -/
def Acc (k S x : Nat) : Prop := Fin x ∧ 1125899906842624 * (V x * W 1074) ≤ 1125899906842632 * (V 4612136378390124954 * S) + 2 * (k * (V 4612136378390124954 * S)) ∧ V x ≤ 2 * (k * W 1100) ∧ (k = 0 → x = 0) ∧ (0 < k → W 969 ≤ V x)
theorem Acc.zero : Acc 0 0 0 := ⟨fin0, by rw [V0]; omega, by rw [V0]; omega, fun _ => rfl, fun h => by omega⟩
theorem hi_room {k a b l : Nat} (hk : k ≤ 65536) (hl : l ≤ 1100) (ha : a ≤ 2 * (k * W l)) (hb : b ≤ W l) : a + b < W 1900 := by
  have h1 : k * W l ≤ 65536 * W l := Nat.mul_le_mul_right _ hk
  have h2 : W l ≤ W 1100 := W_mono hl
  have h3 : W (800 + 1100) = W 800 * W 1100 := W_add 800 1100
  have h4 : W 20 * W 1100 ≤ W 800 * W 1100 := Nat.mul_le_mul_right _ (W_mono (by omega))
  have h5 : W 20 = 1048576 := by decide
  have h6 := W_pos 1100
  rw [h5] at h4
  simp only [Nat.reduceAdd] at h3
  omega
theorem Acc.step {k S x m s : Nat} (h : Acc k S x) (hk : k ≤ 65536) (hm : Idf m) (hs : Sat s) : ∃ t r, double.mul m s = some t ∧ double.add x t = some r ∧ Acc (k + 1) (S + V m) r := by
  obtain ⟨xf, h1, h2, _, _⟩ := h
  obtain ⟨t, ht, tf, t1, t2, t3⟩ := term_law hm hs
  have h52 : W 52 ≤ W 970 := W_mono (by omega)
  obtain ⟨r, hr, rf, hn⟩ := add_fin xf tf (by omega) (hi_room hk (by omega) h2 t2)
  refine ⟨t, r, ht, hr, rf, ?_, ?_, fun h => by omega, fun _ => ?_⟩
  · have n1 := Nat.mul_le_mul_right (W 1074) hn.1
    rw [Nat.mul_assoc, Nat.mul_assoc, Nat.add_mul] at n1
    rw [Nat.mul_add, Nat.mul_add, Nat.add_mul, Nat.one_mul, Nat.mul_add k]
    have hkS : k * (V 4612136378390124954 * S) ≤ 65536 * (V 4612136378390124954 * S) := Nat.mul_le_mul_right _ hk
    generalize V r * W 1074 = A' at *
    generalize V x * W 1074 = A at *
    generalize V t * W 1074 = T at *
    generalize V 4612136378390124954 * S = P at *
    generalize V 4612136378390124954 * V m = Q at *
    generalize k * P = kP at *
    generalize k * Q = kQ at *
    omega
  · have n1 := hn.1
    rw [Nat.add_mul, Nat.one_mul]
    have h1 : k * W 1100 ≤ 65536 * W 1100 := Nat.mul_le_mul_right _ hk
    generalize k * W 1100 = kW at *
    omega
  · have e : W 970 = 2 * W 969 := by have := W_succ 969; simpa only [Nat.reduceAdd] using this
    have n2 := near_lo hn
    omega

/-- x is the running bound after k near pairs -/
def Bd (k S x : Nat) : Prop := Fin x ∧ 1125899906842624 * S ≤ 1125899906842624 * V x + 2 * (k * V x) ∧ V x ≤ 2 * (k * W 1094) ∧ (k = 0 → x = 0 ∧ S = 0) ∧ (0 < k → W 1053 ≤ V x)
theorem Bd.zero : Bd 0 0 0 := ⟨fin0, by rw [V0]; omega, by rw [V0]; omega, fun _ => ⟨rfl, rfl⟩, fun h => by omega⟩
theorem Bd.step {k S x m : Nat} (h : Bd k S x) (hk : k ≤ 65536) (hm : Idf m) : ∃ r, double.add x m = some r ∧ Bd (k + 1) (S + V m) r := by
  obtain ⟨xf, h1, h2, _, _⟩ := h
  obtain ⟨mf, m1, m2⟩ := hm
  have h52 : W 52 ≤ W 1054 := W_mono (by omega)
  obtain ⟨r, hr, rf, hn⟩ := add_fin xf mf (by omega) (hi_room hk (by omega) h2 m2)
  refine ⟨r, hr, rf, ?_, ?_, fun h => by omega, fun _ => ?_⟩
  · have n2 := hn.2
    have n3 := Nat.mul_le_mul_left k n2
    rw [Nat.mul_left_comm, Nat.mul_left_comm k, Nat.mul_add] at n3
    rw [Nat.add_mul, Nat.one_mul]
    have hkr : k * V r ≤ 65536 * V r := Nat.mul_le_mul_right _ hk
    generalize k * V x = kx at *
    generalize k * V m = km at *
    generalize k * V r = kr at *
    omega
  · have n1 := hn.1
    rw [Nat.add_mul, Nat.one_mul]
    have h1 : k * W 1094 ≤ 65536 * W 1094 := Nat.mul_le_mul_right _ hk
    generalize k * W 1094 = kW at *
    omega
  · have e : W 1054 = 2 * W 1053 := by have := W_succ 1053; simpa only [Nat.reduceAdd] using this
    have n2 := near_lo hn
    omega

theorem lin1 {PS kS G : Nat} (g : 1125899906842624 * G ≤ 1125899906842632 * PS + 2 * kS) (h : kS ≤ 65536 * PS) : 4294967296 * G ≤ 4294967297 * PS := by omega
theorem lin2 {PS kB PB : Nat} (q : 1125899906842624 * PS ≤ 1125899906842624 * PB + 2 * kB) (h : kB ≤ 65536 * PB) : 4294967296 * PS ≤ 4294967297 * PB := by omega
theorem lin3 {QB PP : Nat} (n : 1125899906842624 * QB ≤ 1125899906842625 * PP) : 4294967296 * QB ≤ 4294967297 * PP := by omega
theorem lin4 {QB PB : Nat} (c : 4953959815287527 * PB ≤ 4953959590107546 * QB) : 33554433 * PB ≤ 33554432 * QB := by omega
theorem lin5 {G PS PB QB PP : Nat} (h1 : 4294967296 * G ≤ 4294967297 * PS) (h2 : 4294967296 * PS ≤ 4294967297 * PB) (h4 : 33554433 * PB ≤ 33554432 * QB) (h3 : 4294967296 * QB ≤ 4294967297 * PP) : G ≤ PP := by omega

/-- THE LAST LINE. -/
theorem final {k S got bnd : Nat} (hg : Acc k S got) (hb : Bd k S bnd) (hk : k ≤ 65536) :
    ∃ p, double.mul 4612136378615304935 bnd = some p ∧ (double.order got 0 == some .gt || double.order got 0 == some .eq) = true ∧ (double.order got 0 == some .gt) = decide (0 < k) ∧ (double.order got p == some .lt || double.order got p == some .eq) = true := by
  obtain ⟨gf, g1, g2, g3, g4⟩ := hg
  obtain ⟨bf, b1, b2, b3, b4⟩ := hb
  have hge : (double.order got 0 == some .gt || double.order got 0 == some .eq) = true := by rw [ge_fin gf fin0, V0]; simp
  by_cases h0 : k = 0
  · obtain ⟨rfl, rfl⟩ := b3 h0
    obtain rfl := g3 h0
    subst h0
    exact ⟨0, mul_zero c23_fin, hge, by rw [gt_fin fin0 fin0]; simp, by rw [le_fin fin0 fin0]; simp⟩
  · have g5 := g4 (by omega)
    have b5 := b4 (by omega)
    have bhi : V bnd ≤ W 1120 := by
      have h1 : k * W 1094 ≤ 65536 * W 1094 := Nat.mul_le_mul_right _ hk
      have h2 : W (26 + 1094) = 67108864 * W 1094 := W_num (by decide) 1094
      simp only [Nat.reduceAdd] at h2
      omega
    obtain ⟨p, hp, pf, hn⟩ := mul_fin c23_fin bf (dn c23_V.1 (by omega)) (up (Nat.le_of_lt c23_V.2) (by omega)) (dn b5 (by omega)) (up bhi (by omega))
    refine ⟨p, hp, hge, ?_, ?_⟩
    · rw [gt_fin gf fin0, V0]
      have := W_pos 969
      rw [decide_eq_true (by omega), decide_eq_true (by omega)]
    · rw [le_fin gf pf]
      refine decide_eq_true (Nat.le_of_mul_le_mul_right ?_ (W_pos 1074))
      have hc := Nat.mul_le_mul_right (V bnd) (Nat.le_of_eq c23_c22.symm)
      rw [Nat.mul_assoc, Nat.mul_assoc] at hc
      have q1 := Nat.mul_le_mul_left (V 4612136378390124954) b1
      rw [Nat.mul_left_comm, Nat.mul_add, Nat.mul_left_comm (V 4612136378390124954) 1125899906842624, Nat.mul_left_comm (V 4612136378390124954) 2, Nat.mul_left_comm (V 4612136378390124954) k] at q1
      exact lin5 (lin1 g1 (Nat.mul_le_mul_right _ hk)) (lin2 q1 (Nat.mul_le_mul_right _ hk)) (lin4 hc) (lin3 hn.2)
end Go.Proofs.Qxb6609269aMods.Fl
