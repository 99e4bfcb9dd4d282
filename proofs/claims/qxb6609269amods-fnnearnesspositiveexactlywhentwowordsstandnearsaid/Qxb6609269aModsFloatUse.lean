/-
  Seat b6609269aM: the program's own float expressions: what each comes to, and how great it is.
-/
import Derived.Test.Qxb6609269aModsFloatMore
namespace Go.Proofs.Qxb6609269aMods.Fl
open Ieee

theorem W_num {k n : Nat} (h : W k = n) (a : Nat) : W (k + a) = n * W a := by rw [W_add, h]
theorem nearest_w (mag p : Nat) (hm : mag ≠ 0) (h1 : 52 ≤ p + mag.log2) (h2 : p + mag.log2 ≤ 1974) : Fin (double.nearest false mag (-1074 + (p : Int))) ∧ Near (V (double.nearest false mag (-1074 + (p : Int)))) (mag * W p) := by
  have h := nearest_norm mag p hm h1 h2
  exact ⟨h.1, near_of h.2.1 h.2.2⟩

/-! ### 1 / float64(d*d), d from 1 to 5 -/
def conv (n : Nat) : Nat := double.nearest false n 0
theorem recip (d : Nat) (h1 : 1 ≤ d) (h5 : d ≤ 5) : ∃ c, double.div 4607182418800017408 (conv (d * d)) = some c ∧ Fin c ∧ W 1069 ≤ V c ∧ V c ≤ W 1074 := by
  match d, h1, h5 with
  | 1, _, _ => exact ⟨4607182418800017408, by decide +kernel, c1_fin, by rw [c1_V]; exact W_mono (by omega), by rw [c1_V]; exact Nat.le_refl _⟩
  | 2, _, _ => exact ⟨4598175219545276416, by decide +kernel, c14_fin, Nat.le_trans (W_mono (by omega)) c14_V.1, Nat.le_trans (Nat.le_of_lt c14_V.2) (W_mono (by omega))⟩
  | 3, _, _ =>
    have h := V_at (x := 4592670820000712476) (s := 1018) (by omega) (by omega)
    exact ⟨4592670820000712476, by decide +kernel, by unfold Fin; omega, Nat.le_trans (W_mono (by omega)) h.1, Nat.le_trans (Nat.le_of_lt h.2) (W_mono (by omega))⟩
  | 4, _, _ =>
    have h := V_at (x := 4589168020290535424) (s := 1018) (by omega) (by omega)
    exact ⟨4589168020290535424, by decide +kernel, by unfold Fin; omega, Nat.le_trans (W_mono (by omega)) h.1, Nat.le_trans (Nat.le_of_lt h.2) (W_mono (by omega))⟩
  | 5, _, _ =>
    have h := V_at (x := 4585925428558828667) (s := 1017) (by omega) (by omega)
    exact ⟨4585925428558828667, by decide +kernel, by unfold Fin; omega, h.1, Nat.le_trans (Nat.le_of_lt h.2) (W_mono (by omega))⟩

/-! ### a sum of such -/
/-- x is a sum of n terms, each between 1/32 and 1 -/
def Sum (n x : Nat) : Prop := Fin x ∧ V x ≤ 2 * (n * W 1074) ∧ (n = 0 → x = 0) ∧ (0 < n → W 1068 ≤ V x)
theorem Sum.zero : Sum 0 0 := ⟨fin0, by rw [V0]; exact Nat.zero_le _, fun _ => rfl, fun h => by omega⟩
theorem Sum.step {n x c : Nat} (h : Sum n x) (hn : n ≤ 67108864) (hc : Fin c) (c1 : W 1069 ≤ V c) (c2 : V c ≤ W 1074) : ∃ r, double.add x c = some r ∧ Sum (n + 1) r := by
  obtain ⟨hx, hu, _, _⟩ := h
  have e1 : W (5 + 1069) = 32 * W 1069 := W_num (by decide) 1069
  have e0 : W (1068 + 1) = 2 * W 1068 := W_succ 1068
  simp only [Nat.reduceAdd] at e0 e1
  have hA := W_pos 1068
  have h52 : W 52 ≤ W 1069 := W_mono (by omega)
  have hnA : n * W 1074 ≤ 67108864 * W 1074 := Nat.mul_le_mul_right _ hn
  have hhi : V x + V c < W 1900 := by
    have h2 : W 1900 = W 800 * W 1100 := W_add 800 1100
    have h3 : W (26 + 1074) = 67108864 * W 1074 := W_num (by decide) 1074
    simp only [Nat.reduceAdd] at h3
    have h4 : 4 * W 1100 ≤ W 800 * W 1100 := Nat.mul_le_mul_right _ (W_mono (a := 2) (by omega))
    omega
  obtain ⟨r, hr, hrf, hnear⟩ := add_fin hx hc (by omega) hhi
  refine ⟨r, hr, hrf, ?_, fun h => by omega, fun _ => ?_⟩
  · unfold Near at hnear
    rw [Nat.add_mul, Nat.one_mul]
    omega
  · unfold Near at hnear
    omega
theorem Sum.pos {n x : Nat} (h : Sum n x) : (double.order x 0 == some .gt) = decide (0 < n) := by
  rw [gt_fin h.1 fin0, V0]
  by_cases hn : 0 < n
  · have := h.2.2.2 hn
    have := W_pos 1068
    rw [decide_eq_true (by omega), decide_eq_true hn]
  · rw [h.2.2.1 (by omega), V0, decide_eq_false (by omega), decide_eq_false hn]

/-! ### float64 of a length -/
theorem conv_pos (n : Nat) (h0 : 0 < n) (h1 : n ≤ 1073741824) : Fin (conv n) ∧ W 1073 ≤ V (conv n) ∧ V (conv n) ≤ W 1105 := by
  have hl : n.log2 ≤ 30 := by
    have : n.log2 < 31 := (Nat.log2_lt (by omega)).2 (Nat.lt_of_le_of_lt h1 (by decide))
    omega
  obtain ⟨hf, hn⟩ := nearest_w n 1074 (by omega) (by omega) (by omega)
  rw [show (-1074 + ((1074 : Nat) : Int)) = 0 from by omega] at hf hn
  refine ⟨hf, ?_⟩
  change Near (V (conv n)) (n * W 1074) at hn
  have e1 : W (1073 + 1) = 2 * W 1073 := W_succ 1073
  have e2 : W (31 + 1074) = 2147483648 * W 1074 := W_num (by decide) 1074
  simp only [Nat.reduceAdd] at e1 e2
  have b1 : 1 * W 1074 ≤ n * W 1074 := Nat.mul_le_mul_right _ h0
  have b2 : n * W 1074 ≤ 1073741824 * W 1074 := Nat.mul_le_mul_right _ h1
  have hp := W_pos 1073
  unfold Near at hn
  omega
theorem conv_zero : conv 0 = 0 := by decide +kernel
end Go.Proofs.Qxb6609269aMods.Fl
