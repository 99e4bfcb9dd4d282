/-
  Seat b6609269aM: the ranker's lists of places, each growing in a row of its own.
-/
import Derived.Test.Qxb6609269aModsPlaces
import Derived.Test.Qxb6609269aModsMake
import Derived.Deep.AppendLies
namespace Go.Proofs.Qxb6609269aMods
open Go.RowKit

/-- a slice whose cells lie in an old block other than g -/
def LiesX (g : Nat) (w : World) (a : Option Addr) (n : Nat) (vs : List Value) : Prop :=
  vs.length = n ∧ (0 < n → ∃ b off, a = some ⟨b, off, none⟩ ∧ b < w.heap.size ∧ b ≠ g ∧ ∀ j, j < n → w.cell? ⟨b, off + j, none⟩ = vs[j]?)
theorem LiesX.grown {g : Nat} {w w' : World} {a : Option Addr} {n : Nat} {vs : List Value} (h : LiesX g w a n vs) (hg : w.grownBy w' (some g)) : LiesX g w' a n vs := by
  obtain ⟨h1, h2⟩ := h
  refine ⟨h1, fun hn => ?_⟩
  obtain ⟨b, off, e, hlt, hne, hc⟩ := h2 hn
  exact ⟨b, off, e, Nat.lt_of_lt_of_le hlt hg.size, hne, fun j hj => (World.cell?_of_block (a := ⟨b, off + j, none⟩) (hg.block b hlt (fun e => hne (Option.some.inj e)))).trans (hc j hj)⟩
theorem LiesX.at {g : Nat} {w : World} {a : Option Addr} {n : Nat} {vs : List Value} (h : LiesX g w a n vs) {j : Nat} (hj : j < n) : ∃ b off, a = some ⟨b, off, none⟩ ∧ b < w.heap.size ∧ b ≠ g ∧ w.cell? ⟨b, off + j, none⟩ = vs[j]? := by
  obtain ⟨b, off, e, hb, hne, hc⟩ := h.2 (by omega)
  exact ⟨b, off, e, hb, hne, hc j hj⟩
theorem LiesX.lies {g : Nat} {w : World} {a : Option Addr} {n : Nat} {vs : List Value} (h : LiesX g w a n vs) : Lies w a n vs := by
  obtain ⟨h1, h2⟩ := h
  refine ⟨h1, fun hn => ?_⟩
  obtain ⟨b, off, e, hlt, _, hc⟩ := h2 hn
  exact ⟨b, off, e, hlt, hc⟩
theorem LiesB.liesX {B g : Nat} {w : World} {a : Option Addr} {n : Nat} {vs : List Value} (h : LiesB B w a n vs) (hB : B ≤ g) (hs : B ≤ w.heap.size) : LiesX g w a n vs := by
  obtain ⟨h1, h2⟩ := h
  refine ⟨h1, fun hn => ?_⟩
  obtain ⟨b, off, e, hlt, hc⟩ := h2 hn
  exact ⟨b, off, e, by omega, by omega, hc⟩
theorem Blk.grown {g gP : Nat} {w w' : World} {t : TypeId} {vs : List Value} (h : Blk w g t vs) (hg : w.grownBy w' (some gP)) (hne : g ≠ gP) : Blk w' g t vs :=
  (hg.block g h.lt (fun e => hne (Option.some.inj e))).trans h

/-- block gP holds n headers; header i owns the places pl i in a row of its own, from block B on -/
def PS (w : World) (B gP n : Nat) (pl : Nat → List Int) : Prop :=
  gP < B ∧ B ≤ w.heap.size ∧ ∃ hs : List Value, Blk w gP 41 hs ∧ hs.length = n ∧ (∀ i, i < n → ∃ v, hs[i]? = some v ∧ w.ownsRow B 3 1 v (pl i).length (vl (pl i)) ∧ (pl i = [] → v = .slice none 0 0)) ∧
    (∀ i j v u, i < n → j < n → i ≠ j → hs[i]? = some v → hs[j]? = some u → ∀ g, v.ownBlock = some g → u.ownBlock ≠ some g)
theorem PS.start {w : World} {B gP n : Nat} (h1 : gP < B) (h2 : B ≤ w.heap.size) (h : Blk w gP 41 (List.replicate n (.slice none 0 0))) : PS w B gP n (fun _ => []) := by
  refine ⟨h1, h2, _, h, by simp, fun i hi => ⟨.slice none 0 0, by simp [hi], World.ownsRow_nil _ _ _ _, fun _ => rfl⟩, fun i j v u hi hj _ hv _ g hg => ?_⟩
  have : v = .slice none 0 0 := by simpa [hi] using hv.symm
  subst this
  cases hg
theorem PS.congr {w : World} {B gP n : Nat} {pl pl' : Nat → List Int} (h : PS w B gP n pl) (he : ∀ i, i < n → pl' i = pl i) : PS w B gP n pl' := by
  obtain ⟨h1, h2, hs, h3, h4, h5, h6⟩ := h
  refine ⟨h1, h2, hs, h3, h4, fun i hi => ?_, h6⟩
  rw [he i hi]
  exact h5 i hi
/-- header i, as a slice of places -/
theorem PS.at {w : World} {B gP n : Nat} {pl : Nat → List Int} (h : PS w B gP n pl) {i : Nat} (hi : i < n) : ∃ v, w.cell? ⟨gP, i, none⟩ = some v ∧ w.ownsRow B 3 1 v (pl i).length (vl (pl i)) ∧ Pl w v (pl i) ∧ w.frozen? ⟨gP, i, none⟩ = false := by
  obtain ⟨_, _, hs, h3, h4, h5, _⟩ := h
  obtain ⟨v, e1, e2, e3⟩ := h5 i hi
  refine ⟨v, by rw [h3.cell i, e1], e2, ?_, h3.free i⟩
  rcases e2.2 with ⟨rfl, h0⟩ | ⟨g, cap, cur, rfl, _, hg, hc1, hc2, hc3, hc4⟩
  · exact .inl ⟨rfl, List.eq_nil_of_length_eq_zero h0⟩
  · by_cases h0 : (pl i).length = 0
    · have := e3 (List.eq_nil_of_length_eq_zero h0)
      cases this
    · refine .inr ⟨g, 0, cap, rfl, by omega, hc1, hc2, fun j hj => ?_⟩
      rw [Nat.zero_add, e2.cellAt j (by omega), vl_at _ _ hj]

/-- list i with x put behind it -/
def grow (pl : Nat → List Int) (i : Nat) (x : Int) (j : Nat) : List Int := if j = i then pl i ++ [x] else pl j

/-- WHAT ONE append DOES. -/
theorem PS.step {w0 wr wa w1 : World} {gP n i g cap : Nat} {pl : Nat → List Int} {x : Int} {v : Value} (h : PS wr w0.heap.size gP n pl) (h0 : w0.grownBy wr (some gP)) (hi : i < n) (hv : wr.cell? ⟨gP, i, none⟩ = some v)
    (hwa : Below wr.heap.size wr wa) (hgrow : wa.grownBy w1 v.ownBlock) (hown : w1.ownsRow w0.heap.size 3 1 (.slice (some ⟨g, 0, none⟩) ((pl i).length + 1) cap) ((pl i).length + 1) (vl (pl i) ++ [.int .i64 x])) (hat : v.ownBlock = some g ∨ g = wa.heap.size) :
    PS (w1.setCell ⟨gP, i, none⟩ (.slice (some ⟨g, 0, none⟩) ((pl i).length + 1) cap)) w0.heap.size gP n (grow pl i x) ∧ w0.grownBy (w1.setCell ⟨gP, i, none⟩ (.slice (some ⟨g, 0, none⟩) ((pl i).length + 1) cap)) (some gP) := by
  obtain ⟨h1, h2, hs, h3, h4, h5, h6⟩ := h
  obtain ⟨v', e1, e2, e3⟩ := h5 i hi
  have hvv : v' = v := by rw [h3.cell i, e1] at hv; exact Option.some.inj hv
  subst hvv
  have hvlt : ∀ b, v'.ownBlock = some b → w0.heap.size ≤ b ∧ b < wr.heap.size := fun b hb => e2.lt b hb
  have hBa : Blk wa gP 41 hs := h3.below hwa h3.lt
  have hB1 : Blk w1 gP 41 hs := (hgrow.block gP hBa.lt (fun e => by have := (hvlt gP e.symm).1; omega)).trans hBa
  have hsz1 : wr.heap.size ≤ w1.heap.size := Nat.le_trans hwa.size hgrow.size
  have hgB : w0.heap.size ≤ g := (hown.lt g rfl).1
  generalize hnv : Value.slice (some ⟨g, 0, none⟩) ((pl i).length + 1) cap = nv at *
  have hsz : (w1.setCell ⟨gP, i, none⟩ nv).heap.size = w1.heap.size := by simp [World.setCell]
  have hnvo : nv.ownBlock = some g := by rw [← hnv]; rfl
  refine ⟨⟨h1, by rw [hsz]; omega, hs.set i nv, hB1.set i nv, by simpa using h4, fun j hj => ?_, fun j k a b hj hk hne ha hb gg hag => ?_⟩, ?_⟩
  · by_cases e : i = j
    · subst e
      refine ⟨nv, by rw [List.getElem?_set, if_pos rfl, if_pos (by omega)], ?_, fun he => by simp [grow] at he⟩
      have ev : vl (grow pl i x i) = vl (pl i) ++ [.int .i64 x] := by simp [grow, vl]
      have el : (grow pl i x i).length = (pl i).length + 1 := by simp [grow]
      rw [ev, el]
      exact ownsRow_setCell_below hown (by show gP < w0.heap.size; exact h1) _
    · obtain ⟨u, f1, f2, f3⟩ := h5 j hj
      have eg : grow pl i x j = pl j := by unfold grow; rw [if_neg (fun h => e h.symm)]
      rw [eg]
      refine ⟨u, by rw [List.getElem?_set, if_neg e]; exact f1, ?_, f3⟩
      refine ownsRow_setCell_below ?_ (by show gP < w0.heap.size; exact h1) _
      have fa : wa.ownsRow w0.heap.size 3 1 u (pl j).length (vl (pl j)) := by
        refine f2.kept (row := none) ⟨hwa.os, hwa.tape, hwa.output, hwa.size, fun k hk _ => hwa.block k hk⟩ ?_
        cases hu : u.ownBlock with
        | none => exact .inl rfl
        | some q => exact .inr (by simp)
      refine fa.kept hgrow ?_
      cases hu : u.ownBlock with
      | none => exact .inl rfl
      | some q =>
        refine .inr fun hc => ?_
        exact h6 j i u v' hj hi (fun h => e h.symm) f1 e1 q hu hc.symm
  · rw [List.getElem?_set] at ha hb
    by_cases ej : i = j
    · subst ej
      rw [if_pos rfl, if_pos (by omega)] at ha
      obtain rfl := Option.some.inj ha
      rw [if_neg hne] at hb
      rw [hnvo] at hag
      obtain rfl := Option.some.inj hag
      intro hc
      rcases hat with hat | hat
      · exact h6 i k v' b hi hk hne e1 hb g hat hc
      · obtain ⟨u, f1, f2, _⟩ := h5 k hk
        have : u = b := by rw [f1] at hb; exact Option.some.inj hb
        subst this
        have := (f2.lt g hc).2
        have := hwa.size
        omega
    · rw [if_neg ej] at ha
      by_cases ek : i = k
      · subst ek
        rw [if_pos rfl, if_pos (by omega)] at hb
        obtain rfl := Option.some.inj hb
        rw [hnvo]
        intro hc
        obtain rfl := Option.some.inj hc
        rcases hat with hat | hat
        · exact h6 j i a v' hj hi hne ha e1 g hag hat
        · obtain ⟨u, f1, f2, _⟩ := h5 j hj
          have : u = a := by rw [f1] at ha; exact Option.some.inj ha
          subst this
          have := (f2.lt g hag).2
          have := hwa.size
          omega
      · rw [if_neg ek] at hb
        exact h6 j k a b hj hk hne ha hb gg hag
  · refine ⟨?_, ?_, ?_, by rw [hsz]; have := h0.size; omega, fun k hk hne => ?_⟩
    · exact (hgrow.os.trans hwa.os).trans h0.os
    · exact (hgrow.tape.trans hwa.tape).trans h0.tape
    · exact (hgrow.output.trans hwa.output).trans h0.output
    · have hk1 : k < wr.heap.size := Nat.lt_of_lt_of_le hk h0.size
      rw [heap_setCell_other w1 _ k nv (fun e => hne (by rw [e])), hgrow.block k (Nat.lt_of_lt_of_le hk1 hwa.size) (fun e => by have := (hvlt k e.symm).1; omega), hwa.block k hk1]
      exact h0.block k hk hne
end Go.Proofs.Qxb6609269aMods
