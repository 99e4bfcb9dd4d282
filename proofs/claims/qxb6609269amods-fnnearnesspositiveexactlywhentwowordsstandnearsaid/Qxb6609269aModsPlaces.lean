/-
  Seat b6609269aM: places against indices: the two ways to say that two words stand near are one.
-/
import Derived.Test.Qxb6609269aModsTable
namespace Go.Proofs.Qxb6609269aMods

/-- the place of index a -/
def pos (zs : List Int) (a : Nat) : Nat := a + 4 * br zs a
/-- the places of word i among the first a indices -/
def plc (ts : List (List Int)) (zs : List Int) (i : Nat) : Nat → List Int
  | 0 => []
  | a + 1 => if mt ts zs i a = true then plc ts zs i a ++ [(pos zs a : Int)] else plc ts zs i a

theorem br_mono (zs : List Int) {a b : Nat} (h : a ≤ b) : br zs a ≤ br zs b := by
  unfold br
  obtain ⟨c, rfl⟩ := Nat.le.dest h
  rw [List.take_add, List.count_append]
  omega
theorem pos_lt (zs : List Int) {a b : Nat} (h : a < b) : pos zs a < pos zs b := by
  have := br_mono zs (Nat.le_of_lt h)
  unfold pos; omega
theorem pos_bd (zs : List Int) (a : Nat) : pos zs a ≤ 5 * a := by
  have := br_le zs a
  unfold pos; omega

theorem mt_not {ts : List (List Int)} {zs : List Int} {i a : Nat} (h : mt ts zs i a = true) : zs.getD a 0 ≠ -1 := by
  unfold mt at h
  rw [Bool.and_eq_true] at h
  exact bne_iff_ne.1 h.1

theorem plc_len (ts : List (List Int)) (zs : List Int) (i : Nat) : ∀ a, (plc ts zs i a).length ≤ a
  | 0 => by simp [plc]
  | a + 1 => by
    have := plc_len ts zs i a
    simp only [plc]
    split
    · simp; omega
    · omega
theorem plc_mem (ts : List (List Int)) (zs : List Int) (i : Nat) : ∀ a (p : Int), p ∈ plc ts zs i a ↔ ∃ b, b < a ∧ mt ts zs i b = true ∧ p = pos zs b
  | 0, p => by simp [plc]
  | a + 1, p => by
    have ih := plc_mem ts zs i a p
    simp only [plc]
    split
    · rename_i h
      rw [List.mem_append, List.mem_singleton, ih]
      constructor
      · rintro (⟨b, h1, h2, h3⟩ | h1)
        · exact ⟨b, by omega, h2, h3⟩
        · exact ⟨a, by omega, h, h1⟩
      · rintro ⟨b, h1, h2, h3⟩
        by_cases e : b = a
        · subst e; exact .inr h3
        · exact .inl ⟨b, by omega, h2, h3⟩
    · rename_i h
      rw [ih]
      constructor
      · rintro ⟨b, h1, h2, h3⟩
        exact ⟨b, by omega, h2, h3⟩
      · rintro ⟨b, h1, h2, h3⟩
        by_cases e : b = a
        · subst e; exact absurd h2 h
        · exact ⟨b, by omega, h2, h3⟩
theorem getD_append_left {l r : List Int} {j : Nat} (h : j < l.length) : (l ++ r).getD j 0 = l.getD j 0 := by
  simp [List.getElem?_append_left h]
theorem plc_asc (ts : List (List Int)) (zs : List Int) (i : Nat) : ∀ a, ∀ j k, j ≤ k → k < (plc ts zs i a).length → (plc ts zs i a).getD j 0 ≤ (plc ts zs i a).getD k 0
  | 0, j, k, _, h => by simp [plc] at h
  | a + 1, j, k, hjk, h => by
    have ih := plc_asc ts zs i a
    have hmem := plc_mem ts zs i a
    simp only [plc] at h ⊢
    split
    · rename_i hm
      rw [if_pos hm] at h
      rw [List.length_append, List.length_singleton] at h
      by_cases hk : k < (plc ts zs i a).length
      · rw [getD_append_left hk, getD_append_left (by omega)]
        exact ih j k hjk hk
      · have ek : k = (plc ts zs i a).length := by omega
        have e1 : (plc ts zs i a ++ [(pos zs a : Int)]).getD k 0 = pos zs a := by rw [ek]; simp
        rw [e1]
        by_cases hj : j < (plc ts zs i a).length
        · rw [getD_append_left hj]
          obtain ⟨b, h1, _, h3⟩ := (hmem _).1 (getD_mem hj)
          rw [h3]
          have := pos_lt zs h1
          omega
        · have ej : j = (plc ts zs i a).length := by omega
          have e2 : (plc ts zs i a ++ [(pos zs a : Int)]).getD j 0 = pos zs a := by rw [ej]; simp
          rw [e2]
          exact Int.le_refl _
    · rename_i hm
      rw [if_neg hm] at h
      exact ih j k hjk h
theorem plc_Asc (ts : List (List Int)) (zs : List Int) (i a : Nat) (ha : a ≤ 4096) : Asc (plc ts zs i a) := by
  refine ⟨plc_asc ts zs i a, fun j => ?_⟩
  by_cases h : j < (plc ts zs i a).length
  · obtain ⟨b, h1, _, h3⟩ := (plc_mem ts zs i a _).1 (getD_mem h)
    rw [h3]
    have := pos_bd zs b
    omega
  · rw [List.getD_eq_getElem?_getD, List.getElem?_eq_none (by omega)]
    simp

/-- two lists of places, one near the other somewhere -/
def nearL (ps qs : List Int) : Bool := ps.any fun p => qs.any fun q => decide (p ≠ q) && (decide (p - 5 ≤ q) && decide (q ≤ p + 5))
theorem nearL_iff (ps qs : List Int) : nearL ps qs = true ↔ ∃ p ∈ ps, ∃ q ∈ qs, nr p q := by
  simp only [nearL, List.any_eq_true, Bool.and_eq_true, decide_eq_true_eq, nr]
theorem found_iff (ps qs : List Int) : found ps qs ps.length ↔ nearL ps qs = true := by
  rw [nearL_iff]
  constructor
  · rintro ⟨i, j, h1, h2, h3⟩
    exact ⟨_, getD_mem h1, _, getD_mem h2, h3⟩
  · rintro ⟨p, hp, q, hq, h⟩
    obtain ⟨i, hi, rfl⟩ := List.getElem_of_mem hp
    obtain ⟨j, hj, rfl⟩ := List.getElem_of_mem hq
    exact ⟨i, j, hi, hj, by simpa [List.getElem?_eq_getElem hi, List.getElem?_eq_getElem hj] using h⟩

/-- THE TWO WAYS ARE ONE. -/
theorem met_iff (ts : List (List Int)) (zs : List Int) (i j m : Nat) (hm : zs.length = m) :
    met (mt ts zs i) (mt ts zs j) (fun a => br zs (a + 1)) m m ↔ nearL (plc ts zs i m) (plc ts zs j m) = true := by
  rw [nearL_iff]
  have key : ∀ a b, a < m → b < m → mt ts zs i a = true → mt ts zs j b = true → (nr (pos zs a) (pos zs b) ↔ (br zs (a + 1) = br zs (b + 1) ∧ a ≠ b ∧ a ≤ b + 5 ∧ b ≤ a + 5)) := by
    intro a b ha hb h1 h2
    have ea := br_miss zs a (by omega) (mt_not h1)
    have eb := br_miss zs b (by omega) (mt_not h2)
    rw [ea, eb]
    rcases Nat.lt_trichotomy a b with h | h | h
    · have hmono := br_mono zs (Nat.le_of_lt h)
      have hmono1 := br_mono zs (show a + 1 ≤ b from h)
      by_cases e : b = a + 1
      · subst e
        unfold nr pos
        omega
      · unfold nr pos
        omega
    · subst h
      unfold nr
      omega
    · have hmono := br_mono zs (Nat.le_of_lt h)
      have hmono1 := br_mono zs (show b + 1 ≤ a from h)
      by_cases e : a = b + 1
      · subst e
        unfold nr pos
        omega
      · unfold nr pos
        omega
  constructor
  · rintro ⟨a, b, ha, hb, h1, h2, h3⟩
    exact ⟨_, (plc_mem ts zs i m _).2 ⟨a, ha, h1, rfl⟩, _, (plc_mem ts zs j m _).2 ⟨b, hb, h2, rfl⟩, (key a b ha hb h1 h2).2 h3⟩
  · rintro ⟨p, hp, q, hq, h⟩
    obtain ⟨a, ha, h1, rfl⟩ := (plc_mem ts zs i m _).1 hp
    obtain ⟨b, hb, h2, rfl⟩ := (plc_mem ts zs j m _).1 hq
    exact ⟨a, b, ha, hb, h1, h2, (key a b ha hb h1 h2).1 h⟩

/-! ### sums over the pairs i < j, in the loops' order -/
def rowN (N : Nat → Nat → Bool) (i : Nat) : Nat → Nat
  | 0 => 0
  | j + 1 => rowN N i j + if i < j ∧ N i j = true then 1 else 0
def rowS (N : Nat → Nat → Bool) (M : Nat → Nat → Nat) (i : Nat) : Nat → Nat
  | 0 => 0
  | j + 1 => rowS N M i j + if i < j ∧ N i j = true then M i j else 0
def totN (N : Nat → Nat → Bool) (n : Nat) : Nat → Nat
  | 0 => 0
  | i + 1 => totN N n i + rowN N i n
def totS (N : Nat → Nat → Bool) (M : Nat → Nat → Nat) (n : Nat) : Nat → Nat
  | 0 => 0
  | i + 1 => totS N M n i + rowS N M i n
theorem rowN_le (N : Nat → Nat → Bool) (i : Nat) : ∀ j, rowN N i j ≤ j
  | 0 => by simp [rowN]
  | j + 1 => by
    have := rowN_le N i j
    simp only [rowN]
    split <;> omega
theorem totN_le (N : Nat → Nat → Bool) (n : Nat) : ∀ i, totN N n i ≤ i * n
  | 0 => by simp [totN]
  | i + 1 => by
    have := totN_le N n i
    have := rowN_le N i n
    simp only [totN]
    rw [Nat.add_mul, Nat.one_mul]
    omega
theorem rowN_start (N : Nat → Nat → Bool) (i : Nat) : ∀ j, j ≤ i + 1 → rowN N i j = 0
  | 0, _ => rfl
  | j + 1, h => by
    simp only [rowN]
    rw [rowN_start N i j (by omega), if_neg (by omega)]
theorem rowS_start (N : Nat → Nat → Bool) (M : Nat → Nat → Nat) (i : Nat) : ∀ j, j ≤ i + 1 → rowS N M i j = 0
  | 0, _ => rfl
  | j + 1, h => by
    simp only [rowS]
    rw [rowS_start N M i j (by omega), if_neg (by omega)]
theorem row_hit {N : Nat → Nat → Bool} {M : Nat → Nat → Nat} {i j : Nat} (h : i < j) (hN : N i j = true) : rowN N i (j + 1) = rowN N i j + 1 ∧ rowS N M i (j + 1) = rowS N M i j + M i j := by
  simp only [rowN, rowS]
  rw [if_pos ⟨h, hN⟩, if_pos ⟨h, hN⟩]
  exact ⟨rfl, rfl⟩
theorem row_miss {N : Nat → Nat → Bool} {M : Nat → Nat → Nat} {i j : Nat} (hN : N i j = false) : rowN N i (j + 1) = rowN N i j ∧ rowS N M i (j + 1) = rowS N M i j := by
  simp only [rowN, rowS]
  rw [if_neg (by rw [hN]; simp), if_neg (by rw [hN]; simp)]
  exact ⟨rfl, rfl⟩
end Go.Proofs.Qxb6609269aMods
