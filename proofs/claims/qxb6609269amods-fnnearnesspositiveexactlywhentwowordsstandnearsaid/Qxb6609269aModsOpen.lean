/-
  Seat b6609269aM: the arguments, opened: [][]int32, []float64, []int32, [4]int32.
-/
import Derived.Test.Qxb6609269aModsTop
import Derived.Deep.Slices
import Derived.Laws.IdiomArrays
import Derived.Laws.Cover2
import Derived.OpenShut
namespace Go.Proofs.Qxb6609269aMods
open Go.RowKit Go.ChangeShapes Go.WideShapes

theorem cells_at {w : World} {a : Addr} {n : Nat} {V : Nat → Value} (hn : 0 < n) (hc : ∀ i, i < n → w.cell? (a.add i) = some (V i)) : ∃ b off, a = ⟨b, off, none⟩ ∧ b < w.heap.size ∧ ∀ j, j < n → w.cell? ⟨b, off + j, none⟩ = some (V j) := by
  obtain ⟨b, off, spot⟩ := a
  have hspot : spot = none := by simpa [Addr.add] using World.cell?_spot (hc 0 hn)
  subst hspot
  refine ⟨b, off, rfl, ?_, fun j hj => ?_⟩
  · have h0 := hc 0 hn
    by_cases hb : b < w.heap.size
    · exact hb
    · have : w.heap[b]? = none := Array.getElem?_eq_none (by omega)
      simp [World.cell?, Addr.add, this] at h0
  · rw [← add_plain]
    exact hc j hj
theorem lies_at {w : World} {a : Addr} {n : Nat} {V : Nat → Value} {vs : List Value} (hl : vs.length = n) (hv : ∀ i, i < n → vs[i]? = some (V i)) (hc : ∀ i, i < n → w.cell? (a.add i) = some (V i)) : Lies w (some a) n vs := by
  refine ⟨hl, fun hn => ?_⟩
  obtain ⟨b, off, rfl, hb, h⟩ := cells_at hn hc
  exact ⟨b, off, rfl, hb, fun j hj => (h j hj).trans (hv j hj).symm⟩

section
variable {H : Type} {enc : TypeId × Value → H} {w : World} {base : Nat} {held : Bool}

theorem ints_of {fuel : Nat} {v : Value} {x : DataW H × List MemPlace} (h : DataW.trod enc Trym.prog w base (fun _ => true) held fuel 28 [v] = some x) :
    ∃ a n c zs, v = .slice a n c ∧ zs.length = n ∧ (a = none → n = 0 ∧ c = 0) ∧ Lies w a n (vi zs) := by
  rcases open_ints Trym.underlying28 Trym.underlying21 (by kernel_rfl) h with ⟨hcs, _⟩ | ⟨y, l, c, zs, hcs, _, hl, hm, hz, _, hcell, _⟩
  · simp only [List.cons.injEq, and_true] at hcs
    exact ⟨none, 0, 0, [], hcs, rfl, fun _ => ⟨rfl, rfl⟩, rfl, fun h => by omega⟩
  · simp only [List.cons.injEq, and_true] at hcs
    have hz' : zs.length = c := by simpa using hz
    refine ⟨some y, l, c, zs.take l, hcs, by simp; omega, (fun h => by cases h), lies_at (V := fun i => .int .i32 (zs.getD i 0)) (by rw [vi_len]; simp; omega) (fun i hi => ?_) (fun i hi => hcell i (by omega))⟩
    rw [vi_at _ i (by simp; omega)]
    simp [hi]

theorem float_of' {P : Program} {t : TypeId} (ht : P.underlying t = some (.float .f64)) {fuel : Nat} {v : Value} {x : DataW H × List MemPlace} (h : DataW.trod enc P w base (fun _ => true) held fuel t [v] = some x) : ∃ b, v = .float .f64 b ∧ b < 18446744073709551616 := by
  cases fuel with
  | zero => simp [DataW.trod] at h
  | succ n =>
    unfold DataW.trod at h
    rw [ht] at h
    cases v with
    | float k b =>
      simp only at h
      split at h
      · rename_i hk
        obtain ⟨rfl, hw⟩ := hk
        refine ⟨b, rfl, ?_⟩
        simp only [Lit.wf, decide_eq_true_eq] at hw
        omega
      · cases h
    | _ => simp at h
theorem int_of' {P : Program} {t : TypeId} (ht : P.underlying t = some (.int .i32)) {fuel : Nat} {v : Value} {x : DataW H × List MemPlace} (h : DataW.trod enc P w base (fun _ => true) held fuel t [v] = some x) : ∃ z, v = .int .i32 z := by
  cases fuel with
  | zero => simp [DataW.trod] at h
  | succ n =>
    unfold DataW.trod at h
    rw [ht] at h
    cases v with
    | int k b =>
      simp only at h
      split at h
      · rename_i hk
        obtain ⟨rfl, _⟩ := hk
        exact ⟨b, rfl⟩
      · cases h
    | _ => simp at h

theorem floats_of {fuel : Nat} {v : Value} {x : DataW H × List MemPlace} (h : DataW.trod enc Trym.prog w base (fun _ => true) held fuel 26 [v] = some x) :
    ∃ a n c fs, v = .slice a n c ∧ (a = none → n = 0 ∧ c = 0) ∧ Lies w a n (vf fs) ∧ ∀ i, fs.getD i 0 < 18446744073709551616 := by
  rcases Deep.open_slice1 Trym.underlying26 (by kernel_rfl) h with ⟨hcs, _⟩ | ⟨y, l, c, m, n, V, D, Pl, hcs, _, hl, _, hm, _, hx⟩
  · simp only [List.cons.injEq, and_true] at hcs
    exact ⟨none, 0, 0, [], hcs, fun _ => ⟨rfl, rfl⟩, ⟨rfl, fun h => by omega⟩, fun i => by simp⟩
  · simp only [List.cons.injEq, and_true] at hcs
    simp only [if_true] at hm
    obtain ⟨f, hf⟩ := Deep.choose_lt (p := fun i b => V i = .float .f64 b ∧ b < 18446744073709551616) (n := l) (fun i hi => float_of' Trym.underlying27 (hx i (by omega)).2)
    refine ⟨some y, l, c, (List.range l).map f, hcs, (fun h => by cases h), lies_at (V := V) (by rw [vf_len]; simp) (fun i hi => ?_) (fun i hi => (hx i (by omega)).1), fun i => ?_⟩
    · rw [vf_at _ i (by simpa using hi), (hf i hi).1]
      simp [hi]
    · by_cases hi : i < l
      · simpa [hi] using (hf i hi).2
      · simp [hi]

theorem terms_of {fuel : Nat} {v : Value} {x : DataW H × List MemPlace} (h : DataW.trod enc Trym.prog w base (fun _ => true) held fuel 25 [v] = some x) :
    ∃ a n c ts, v = .slice a n c ∧ (a = none → n = 0 ∧ c = 0) ∧ Terms w.heap.size w a n ts := by
  rcases Deep.open_slice1 Trym.underlying25 (by kernel_rfl) h with ⟨hcs, _⟩ | ⟨y, l, c, m, n, V, D, Pl, hcs, _, hl, _, hm, _, hx⟩
  · simp only [List.cons.injEq, and_true] at hcs
    exact ⟨none, 0, 0, [], hcs, fun _ => ⟨rfl, rfl⟩, rfl, [], ⟨rfl, fun h => by omega⟩, fun i hi => by omega⟩
  · simp only [List.cons.injEq, and_true] at hcs
    simp only [if_true] at hm
    obtain ⟨f, hf⟩ := Deep.choose_lt (p := fun i zs => ∃ ai ci, V i = .slice ai zs.length ci ∧ (ai = none → zs.length = 0 ∧ ci = 0) ∧ Lies w ai zs.length (vi zs)) (n := l) (fun i hi => by
      obtain ⟨a, k, c, zs, e1, e2, e3, e4⟩ := ints_of (hx i (by omega)).2
      subst e2
      exact ⟨zs, a, c, e1, e3, e4⟩)
    refine ⟨some y, l, c, (List.range l).map f, hcs, (fun h => by cases h), by simp, (List.range l).map V, lies_at (V := V) (by simp) (fun i hi => by simp [hi]) (fun i hi => (hx i (by omega)).1), fun i hi => ?_⟩
    obtain ⟨ai, ci, e1, e2, e3⟩ := hf i hi
    have e : ((List.range l).map f).getD i [] = f i := by simp [hi]
    rw [e]
    exact ⟨ai, ci, by simp [hi, e1], e2, e3⟩

theorem arr_of {P : Program} {t e : TypeId} (ht : P.underlying t = some (.array 4 e)) (he : P.underlying e = some (.int .i32)) (hc : P.cellsOf e = 1) (hct : P.cellsOf t = 4) {r : Reach} {b0 : Nat} {v : Value} {d : DataW H} {ps : List MemPlace}
    (hv : Value.okWide P w r b0 t v) (hd : DataW.Trod enc P w base (fun _ => true) held t v d ps) : ∃ l0 l1 l2 l3, v = .agg #[.int .i32 l0, .int .i32 l1, .int .i32 l2, .int .i32 l3] := by
  unfold Value.okWide at hv
  rw [ht] at hv
  obtain ⟨cs, rfl, hs, _⟩ := hv
  rw [hct] at hs
  obtain ⟨x0, x1, x2, x3, rfl⟩ : ∃ x0 x1 x2 x3, cs = #[x0, x1, x2, x3] := by
    rcases cs with ⟨l⟩
    match l, hs with
    | [x0, x1, x2, x3], _ => exact ⟨x0, x1, x2, x3, rfl⟩
  obtain ⟨fuel, hf⟩ := hd
  obtain ⟨y0, y1, y2, y3, m, _, g0, g1, g2, g3⟩ := trod_array4 ht hc hf
  obtain ⟨l0, rfl⟩ := int_of' he g0
  obtain ⟨l1, rfl⟩ := int_of' he g1
  obtain ⟨l2, rfl⟩ := int_of' he g2
  obtain ⟨l3, rfl⟩ := int_of' he g3
  exact ⟨l0, l1, l2, l3, rfl⟩
end
end Go.Proofs.Qxb6609269aMods
