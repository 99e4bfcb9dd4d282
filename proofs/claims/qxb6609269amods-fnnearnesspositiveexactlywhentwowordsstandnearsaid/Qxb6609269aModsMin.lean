/-
  Seat b6609269aM: the builtin min; the plain words of nearness' last loops.
-/
import Derived.Test.Qxb6609269aModsLists
namespace Go.Proofs.Qxb6609269aMods
open Go.RowKit

theorem min_run {x y : Nat} (hx : Fl.Fin x) (hy : Fl.Fin y) (ats : Array TypeId) (t : TypeId) (w : World) :
    (Builtin.min_ ats t #[.float .f64 x, .float .f64 y]).run Trym.prog w = .ok (.float .f64 (Fl.fmin x y)) w := by
  have ho : FloatKind.f64.format.order x y = some (compare (Fl.V x) (Fl.V y)) := Fl.order_fin hx hy
  have hr : FloatKind.f64.decode x = .number false (Fl.mg x) (-1074 + (Fl.sh x : Int)) := Fl.read_fin hx
  have hm : Builtin.min_ ats t #[.float .f64 x, .float .f64 y] = Builtin.min2 (.float .f64 x) (.float .f64 y) >>= pure := rfl
  rw [hm]
  unfold Builtin.min2 Fl.fmin
  dsimp only
  rw [ho]
  rcases Nat.lt_trichotomy (Fl.V x) (Fl.V y) with h | h | h
  · have e : compare (Fl.V x) (Fl.V y) = .lt := Nat.compare_eq_lt.2 h
    rw [e, if_pos h]
    rfl
  · have e : compare (Fl.V x) (Fl.V y) = .eq := Nat.compare_eq_eq.2 h
    have hlt : ¬ Fl.V x < Fl.V y := by omega
    have hneg : (FloatKind.f64.decode x).neg = false := by rw [hr]; rfl
    simp only [e, hneg, if_neg hlt]
    rfl
  · have e : compare (Fl.V x) (Fl.V y) = .gt := Nat.compare_eq_gt.2 h
    have hlt : ¬ Fl.V x < Fl.V y := by omega
    simp only [e, if_neg hlt]
    rfl
/-- is a positive double above nought? -/
theorem gt_run {r : Nat} (hf : Fl.Fin r) : (FloatKind.f64.format.order r 0 == some Ordering.gt) = decide (0 < Fl.V r) := by
  have := Fl.gt_fin hf Fl.fin0
  rw [Fl.V0] at this
  exact this

def NN (ts : List (List Int)) (zs : List Int) (m i j : Nat) : Bool := nearL (plc ts zs i m) (plc ts zs j m)
def MM (fs : List Nat) (i j : Nat) : Nat := Fl.V (Fl.fmin (fs.getD i 0) (fs.getD j 0))

/-- the sum of the pairs so far -/
def At (ts : List (List Int)) (zs : List Int) (fs : List Nat) (m n i j x : Nat) : Prop :=
  Fl.Acc (totN (NN ts zs m) n i + rowN (NN ts zs m) i j) (totS (NN ts zs m) (MM fs) n i + rowS (NN ts zs m) (MM fs) i j) x
theorem At.zero (ts : List (List Int)) (zs : List Int) (fs : List Nat) (m n : Nat) : At ts zs fs m n 0 0 0 := Fl.Acc.zero
theorem At.start {ts : List (List Int)} {zs : List Int} {fs : List Nat} {m n i x : Nat} (h : At ts zs fs m n i 0 x) : At ts zs fs m n i (i + 1) x := by
  unfold At at h ⊢
  rw [rowN_start _ _ _ (Nat.le_refl _), rowS_start _ _ _ _ (Nat.le_refl _)]
  exact h
theorem At.next {ts : List (List Int)} {zs : List Int} {fs : List Nat} {m n i x : Nat} (h : At ts zs fs m n i n x) : At ts zs fs m n (i + 1) 0 x := h
theorem At.miss {ts : List (List Int)} {zs : List Int} {fs : List Nat} {m n i j x : Nat} (h : At ts zs fs m n i j x) (hN : NN ts zs m i j = false) : At ts zs fs m n i (j + 1) x := by
  unfold At at h ⊢
  rw [(row_miss (M := MM fs) hN).1, (row_miss (M := MM fs) hN).2]
  exact h
theorem At.hit {ts : List (List Int)} {zs : List Int} {fs : List Nat} {m n i j x s : Nat} (h : At ts zs fs m n i j x) (hij : i < j) (hjn : j < n) (hn : n ≤ 256) (hN : NN ts zs m i j = true) (hi : Fl.Idf (fs.getD i 0)) (hj : Fl.Idf (fs.getD j 0)) (hs : Fl.Sat s) :
    ∃ t r, Ieee.double.mul (Fl.fmin (fs.getD i 0) (fs.getD j 0)) s = some t ∧ Ieee.double.add x t = some r ∧ At ts zs fs m n i (j + 1) r := by
  have b1 := totN_le (NN ts zs m) n i
  have b2 := rowN_le (NN ts zs m) i j
  have b3 : i * n ≤ 254 * 256 := Nat.mul_le_mul (by omega) hn
  obtain ⟨t, r, h1, h2, h3⟩ := Fl.Acc.step h (by omega) (Fl.fmin_idf hi hj) hs
  refine ⟨t, r, h1, h2, ?_⟩
  unfold At
  have hM : MM fs i j = Fl.V (Fl.fmin (fs.getD i 0) (fs.getD j 0)) := rfl
  rw [(row_hit (M := MM fs) hij hN).1, (row_hit (M := MM fs) hij hN).2, hM, ← Nat.add_assoc, ← Nat.add_assoc]
  exact h3

/-- nearSum on the lists of two words -/
theorem near_hit {w1 : World} {B gP n m i j : Nat} {ts : List (List Int)} {zs : List Int} (h : PS w1 B gP n (fun i => plc ts zs i m)) (hi : i < n) (hj : j < n) (hm : m ≤ 4096) (hN : NN ts zs m i j = true) :
    ∃ v1 v2, w1.cell? ⟨gP, i, none⟩ = some v1 ∧ w1.cell? ⟨gP, j, none⟩ = some v2 ∧
      Hid (∀ d, Calls Trym.prog 23 #[v1, v2] (w1.drewN d).drew fun e w' => ∃ r, e = .returned (.float .f64 r) ∧ Hid (Fl.Fin r ∧ Fl.W 1068 ≤ Fl.V r ∧ Fl.V r ≤ Fl.W 1101) ∧ (FloatKind.f64.format.order r 0 == some Ordering.gt) = true ∧ w' = (w1.drewN d).drew) := by
  obtain ⟨v1, c1, _, p1, _⟩ := h.at hi
  obtain ⟨v2, c2, _, p2, _⟩ := h.at hj
  refine ⟨v1, v2, c1, c2, ?_⟩
  intro d
  have l1 := plc_len ts zs i m
  have l2 := plc_len ts zs j m
  refine (near_all v1 v2 (plc ts zs i m) (plc ts zs j m) (w1.drewN d).drew p1 p2 (by omega) (by omega) (plc_Asc ts zs i m hm) (plc_Asc ts zs j m hm)).mono ?_
  rintro e w' ⟨cnt, r, rfl, hs, hc, hf, rfl⟩
  have hpos : 0 < cnt := hf.2 ((found_iff _ _).2 hN)
  obtain ⟨f1, f2, _, f4⟩ := hs
  have f5 := f4 hpos
  have hp := Fl.W_pos 1068
  have e1 : Fl.W (25 + 1074) = Fl.W 25 * Fl.W 1074 := Fl.W_add 25 1074
  have e2 : Fl.W 25 = 33554432 := by decide
  have e3 : Fl.W (25 + 1074) ≤ Fl.W 1101 := Fl.W_mono (by omega)
  have e4 : cnt * Fl.W 1074 ≤ 16777216 * Fl.W 1074 := Nat.mul_le_mul_right _ hc
  rw [e1, e2] at e3
  refine ⟨r, rfl, ⟨f1, f5, by omega⟩, ?_, rfl⟩
  rw [gt_run f1]
  exact decide_eq_true (by omega)
theorem near_miss {w1 : World} {B gP n m i j : Nat} {ts : List (List Int)} {zs : List Int} (h : PS w1 B gP n (fun i => plc ts zs i m)) (hi : i < n) (hj : j < n) (hm : m ≤ 4096) (hN : NN ts zs m i j = false) :
    ∃ v1 v2, w1.cell? ⟨gP, i, none⟩ = some v1 ∧ w1.cell? ⟨gP, j, none⟩ = some v2 ∧
      Hid (∀ d, Calls Trym.prog 23 #[v1, v2] (w1.drewN d).drew fun e w' => e = .returned (.float .f64 0) ∧ w' = (w1.drewN d).drew) := by
  obtain ⟨v1, c1, _, p1, _⟩ := h.at hi
  obtain ⟨v2, c2, _, p2, _⟩ := h.at hj
  refine ⟨v1, v2, c1, c2, ?_⟩
  intro d
  have l1 := plc_len ts zs i m
  have l2 := plc_len ts zs j m
  refine (near_all v1 v2 (plc ts zs i m) (plc ts zs j m) (w1.drewN d).drew p1 p2 (by omega) (by omega) (plc_Asc ts zs i m hm) (plc_Asc ts zs j m hm)).mono ?_
  rintro e w' ⟨cnt, r, rfl, hs, hc, hf, rfl⟩
  have h0 : cnt = 0 := by
    rcases Nat.eq_zero_or_pos cnt with h | h
    · exact h
    · have := (found_iff _ _).1 (hf.1 h)
      unfold NN at hN
      rw [hN] at this
      cases this
  rw [hs.2.2.1 h0]
  exact ⟨rfl, rfl⟩
theorem gt_zero : (FloatKind.f64.format.order 0 0 == some Ordering.gt) = false := by
  rw [gt_run Fl.fin0, Fl.V0]
  rfl
end Go.Proofs.Qxb6609269aMods
