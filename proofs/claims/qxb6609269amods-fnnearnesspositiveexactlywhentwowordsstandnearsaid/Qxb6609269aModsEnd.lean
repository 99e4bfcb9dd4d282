/-
  Seat b6609269aM: the last loops of the statement's function, in plain words.
-/
import Derived.Test.Qxb6609269aModsShim
namespace Go.Proofs.Qxb6609269aMods
open Go.RowKit

/-- the bound so far -/
def BdAt (ts : List (List Int)) (zs : List Int) (fs : List Nat) (m n i j x : Nat) : Prop :=
  Fl.Bd (totN (NN ts zs m) n i + rowN (NN ts zs m) i j) (totS (NN ts zs m) (MM fs) n i + rowS (NN ts zs m) (MM fs) i j) x
/-- has a pair been near so far? -/
def anyB (ts : List (List Int)) (zs : List Int) (m n i j : Nat) : Bool := decide (0 < totN (NN ts zs m) n i + rowN (NN ts zs m) i j)
theorem BdAt.zero (ts : List (List Int)) (zs : List Int) (fs : List Nat) (m n : Nat) : BdAt ts zs fs m n 0 0 0 := Fl.Bd.zero
theorem anyB_zero (ts : List (List Int)) (zs : List Int) (m n : Nat) : anyB ts zs m n 0 0 = false := rfl
theorem BdAt.start {ts : List (List Int)} {zs : List Int} {fs : List Nat} {m n i x : Nat} (h : BdAt ts zs fs m n i 0 x) : BdAt ts zs fs m n i (i + 1) x := by
  unfold BdAt at h ⊢
  rw [rowN_start _ _ _ (Nat.le_refl _), rowS_start _ _ _ _ (Nat.le_refl _)]
  exact h
theorem anyB_start (ts : List (List Int)) (zs : List Int) (m n i : Nat) : anyB ts zs m n i (i + 1) = anyB ts zs m n i 0 := by
  unfold anyB
  rw [rowN_start _ _ _ (Nat.le_refl _)]
  rfl
theorem BdAt.next {ts : List (List Int)} {zs : List Int} {fs : List Nat} {m n i x : Nat} (h : BdAt ts zs fs m n i n x) : BdAt ts zs fs m n (i + 1) 0 x := h
theorem anyB_next (ts : List (List Int)) (zs : List Int) (m n i : Nat) : anyB ts zs m n (i + 1) 0 = anyB ts zs m n i n := rfl
theorem BdAt.miss {ts : List (List Int)} {zs : List Int} {fs : List Nat} {m n i j x : Nat} (h : BdAt ts zs fs m n i j x) (hN : NN ts zs m i j = false) : BdAt ts zs fs m n i (j + 1) x := by
  unfold BdAt at h ⊢
  rw [(row_miss (M := MM fs) hN).1, (row_miss (M := MM fs) hN).2]
  exact h
theorem anyB_miss {ts : List (List Int)} {zs : List Int} {m n i j : Nat} (hN : NN ts zs m i j = false) : anyB ts zs m n i (j + 1) = anyB ts zs m n i j := by
  unfold anyB
  rw [(row_miss (M := fun _ _ => 0) hN).1]
theorem anyB_hit {ts : List (List Int)} {zs : List Int} {m n i j : Nat} (hij : i < j) (hN : NN ts zs m i j = true) : anyB ts zs m n i (j + 1) = true := by
  unfold anyB
  rw [(row_hit (M := fun _ _ => 0) hij hN).1]
  exact decide_eq_true (by omega)
theorem BdAt.hit {ts : List (List Int)} {zs : List Int} {fs : List Nat} {m n i j x : Nat} (h : BdAt ts zs fs m n i j x) (hij : i < j) (hjn : j < n) (hn : n ≤ 256) (hN : NN ts zs m i j = true) (hi : Fl.Idf (fs.getD i 0)) (hj : Fl.Idf (fs.getD j 0)) :
    ∃ r, Ieee.double.add x (Fl.fmin (fs.getD i 0) (fs.getD j 0)) = some r ∧ BdAt ts zs fs m n i (j + 1) r := by
  have b1 := totN_le (NN ts zs m) n i
  have b2 := rowN_le (NN ts zs m) i j
  have b3 : i * n ≤ 254 * 256 := Nat.mul_le_mul (by omega) hn
  obtain ⟨r, h1, h3⟩ := Fl.Bd.step h (by omega) (Fl.fmin_idf hi hj)
  refine ⟨r, h1, ?_⟩
  unfold BdAt
  have hM : MM fs i j = Fl.V (Fl.fmin (fs.getD i 0) (fs.getD j 0)) := rfl
  rw [(row_hit (M := MM fs) hij hN).1, (row_hit (M := MM fs) hij hN).2, hM, ← Nat.add_assoc, ← Nat.add_assoc]
  exact h3

/-- the last line -/
theorem end_law {ts : List (List Int)} {zs : List Int} {fs : List Nat} {m n got bnd : Nat} (hn : n ≤ 256) (hg : At ts zs fs m n n 0 got) (hb : BdAt ts zs fs m n n 0 bnd) :
    ∃ p, floatBits .mul .f64 4612136378615304935 bnd = some p ∧ (FloatKind.f64.format.order got 0 == some .gt || FloatKind.f64.format.order got 0 == some .eq) = true ∧ (FloatKind.f64.format.order got 0 == some .gt) = anyB ts zs m n n 0 ∧ (FloatKind.f64.format.order got p == some .lt || FloatKind.f64.format.order got p == some .eq) = true := by
  have b1 := totN_le (NN ts zs m) n n
  have b3 : n * n ≤ 256 * 256 := Nat.mul_le_mul hn hn
  exact Fl.final hg hb (by show totN _ _ _ + 0 ≤ _; omega)

/-- row i of the table, and its header, to the end -/
theorem loop_facts {w10 w11 : World} {G n m : Nat} {ts : List (List Int)} {zs : List Int} {hs : List Value} (hB : Blk w10 G 44 hs) (hT : ∀ i, i < n → TRow G w10 hs m (mt ts zs i) i) (hb : Below w10.heap.size w10 w11) {i : Nat} (hi : i < n) :
    ∃ g, w11.cell? ⟨G, i, none⟩ = some (.slice (some ⟨g, 0, none⟩) m m) ∧ RowF w11 g m (fun a => .bool (mt ts zs i a)) := by
  obtain ⟨g, e1, _, e3, e4⟩ := hT i hi
  refine ⟨g, ?_, fun j hj => ?_⟩
  · rw [(hB.below hb hB.lt).cell i, e1]
  · exact (World.cell?_of_block (a := ⟨g, j, none⟩) (hb.block g e3)).trans (e4 j hj)

/-- the closeness of two words, as the law's own function reckons it -/
theorem pair_hit {w : World} {gx gy gt m i j : Nat} {ts : List (List Int)} {zs : List Int} (hm : m ≤ 4096) (hz : zs.length = m) (hx : RowF w gx m (fun a => .bool (mt ts zs i a))) (hy : RowF w gy m (fun a => .bool (mt ts zs j a))) (ht : RowF w gt m (fun a => .int .i64 (br zs (a + 1)))) (hN : NN ts zs m i j = true) (d : Nat) :
    Calls Trym.prog 16 #[.slice (some ⟨gx, 0, none⟩) m m, .slice (some ⟨gy, 0, none⟩) m m, .slice (some ⟨gt, 0, none⟩) m m] (w.drewN d).drew fun e w' => ∃ r, e = .returned (.float .f64 r) ∧ (FloatKind.f64.format.order r 0 == some Ordering.gt) = true ∧ ∃ q, w' = (w.drewN d).drew.drewN q := by
  refine (pair_any gx gy gt m (mt ts zs i) (mt ts zs j) (fun a => br zs (a + 1)) (w.drewN d).drew hm hx hy ht).mono ?_
  rintro e w' ⟨cnt, r, rfl, hs, hf, q, rfl⟩
  have hpos : 0 < cnt := hf.2 ((met_iff ts zs i j m hz).2 hN)
  have f5 := hs.2.2.2 hpos
  have hp := Fl.W_pos 1068
  refine ⟨r, rfl, ?_, q, rfl⟩
  rw [gt_run hs.1]
  exact decide_eq_true (by omega)
theorem pair_miss {w : World} {gx gy gt m i j : Nat} {ts : List (List Int)} {zs : List Int} (hm : m ≤ 4096) (hz : zs.length = m) (hx : RowF w gx m (fun a => .bool (mt ts zs i a))) (hy : RowF w gy m (fun a => .bool (mt ts zs j a))) (ht : RowF w gt m (fun a => .int .i64 (br zs (a + 1)))) (hN : NN ts zs m i j = false) (d : Nat) :
    Calls Trym.prog 16 #[.slice (some ⟨gx, 0, none⟩) m m, .slice (some ⟨gy, 0, none⟩) m m, .slice (some ⟨gt, 0, none⟩) m m] (w.drewN d).drew fun e w' => e = .returned (.float .f64 0) ∧ ∃ q, w' = (w.drewN d).drew.drewN q := by
  refine (pair_any gx gy gt m (mt ts zs i) (mt ts zs j) (fun a => br zs (a + 1)) (w.drewN d).drew hm hx hy ht).mono ?_
  rintro e w' ⟨cnt, r, rfl, hs, hf, q, rfl⟩
  have h0 : cnt = 0 := by
    rcases Nat.eq_zero_or_pos cnt with h | h
    · exact h
    · have := (met_iff ts zs i j m hz).1 (hf.1 h)
      unfold NN at hN
      rw [hN] at this
      cases this
  rw [hs.2.2.1 h0]
  exact ⟨rfl, q, rfl⟩
end Go.Proofs.Qxb6609269aMods
