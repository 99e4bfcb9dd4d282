/-
  Seat b6609269aM: slices as the walks see them; blocks of the call's own; closed facts of the program.
-/
import Derived.Test.Qxb6609269aModsFloatAcc
import Derived.Test.Qxb6609269aModsProg
import Derived.WalkKit
import Derived.WalkLawsBesides
import Derived.WalkSpells
import Derived.Deep.QuietTactic
import Derived.BigQuiet
import Derived.Laws.Rows
import Derived.Laws.Tables
import Derived.Laws.CopyOwn
import Derived.ChangeShapes
namespace Go.Proofs.Qxb6609269aMods
open Go.RowKit
open Go.WideShapes (add_plain)

theorem Trym.info21 : (Trym.prog.info? 21).map (fun i => (i.zero, i.size, i.bytes)) = some (some (.int .i32 0), 1, 4) := by kernel_rfl
theorem Trym.info27 : (Trym.prog.info? 27).map (fun i => (i.zero, i.size, i.bytes)) = some (some (.float .f64 0), 1, 8) := by kernel_rfl
theorem Trym.info28 : (Trym.prog.info? 28).map (fun i => (i.zero, i.size, i.bytes)) = some (some (.slice none 0 0), 1, 24) := by kernel_rfl
theorem Trym.info3 : (Trym.prog.info? 3).map (fun i => (i.zero, i.size, i.bytes)) = some (some (.int .i64 0), 1, 8) := by kernel_rfl
theorem Trym.info4 : (Trym.prog.info? 4).map (fun i => (i.zero, i.size, i.bytes)) = some (some (.bool false), 1, 1) := by kernel_rfl
theorem Trym.info44 : (Trym.prog.info? 44).map (fun i => (i.zero, i.size, i.bytes)) = some (some (.slice none 0 0), 1, 24) := by kernel_rfl
theorem Trym.info41 : (Trym.prog.info? 41).map (fun i => (i.zero, i.size, i.bytes)) = some (some (.slice none 0 0), 1, 24) := by kernel_rfl
theorem Trym.size21 : (Trym.prog.info? 21).map (·.size) = some 1 := by kernel_rfl
theorem Trym.size27 : (Trym.prog.info? 27).map (·.size) = some 1 := by kernel_rfl

/-! ### a slice of one-cell elements: its n values vs; where there is one, it lies at b, off -/
def LiesB (B : Nat) (w : World) (a : Option Addr) (n : Nat) (vs : List Value) : Prop :=
  vs.length = n ∧ (0 < n → ∃ b off, a = some ⟨b, off, none⟩ ∧ b < B ∧ ∀ j, j < n → w.cell? ⟨b, off + j, none⟩ = vs[j]?)
def Lies (w : World) (a : Option Addr) (n : Nat) (vs : List Value) : Prop := LiesB w.heap.size w a n vs

theorem LiesB.keep {B B' : Nat} {w w' : World} {a : Option Addr} {n : Nat} {vs : List Value} (h : LiesB B w a n vs) (hs : B ≤ B')
    (hb : ∀ b off, a = some ⟨b, off, none⟩ → b < B → w'.heap[b]? = w.heap[b]?) : LiesB B' w' a n vs := by
  obtain ⟨h1, h2⟩ := h
  refine ⟨h1, fun hn => ?_⟩
  obtain ⟨b, off, e, hlt, hc⟩ := h2 hn
  exact ⟨b, off, e, Nat.lt_of_lt_of_le hlt hs, fun j hj => (World.cell?_of_block (a := ⟨b, off + j, none⟩) (hb b off e hlt)).trans (hc j hj)⟩
theorem LiesB.below {B : Nat} {w w' : World} {a : Option Addr} {n : Nat} {vs : List Value} (h : LiesB B w a n vs) (hb : Below B w w') : LiesB B w' a n vs :=
  h.keep (Nat.le_refl _) (fun b _ _ hlt => hb.block b hlt)
theorem LiesB.grown {B g : Nat} {w w' : World} {a : Option Addr} {n : Nat} {vs : List Value} (h : LiesB B w a n vs) (hg : w.grownBy w' (some g)) (hB : B ≤ g) (hs : B ≤ w.heap.size) : LiesB B w' a n vs :=
  h.keep (Nat.le_refl _) (fun b _ _ hlt => hg.block b (by omega) (fun e => by have := Option.some.inj e; omega))
theorem LiesB.mono {B B' : Nat} {w : World} {a : Option Addr} {n : Nat} {vs : List Value} (h : LiesB B w a n vs) (hs : B ≤ B') : LiesB B' w a n vs := h.keep hs (fun _ _ _ _ => rfl)
theorem Lies.below {w w' : World} {a : Option Addr} {n : Nat} {vs : List Value} (h : Lies w a n vs) (hb : Below w.heap.size w w') : Lies w' a n vs :=
  LiesB.mono (LiesB.below h hb) hb.size
theorem Lies.alloc {w : World} {a : Option Addr} {n : Nat} {vs : List Value} (h : Lies w a n vs) (o : Obj) : Lies (w.alloc o) a n vs := h.below ((Below.refl _ _).alloc (Nat.le_refl _) o)
/-- the address, where there is an element -/
theorem LiesB.at {B : Nat} {w : World} {a : Option Addr} {n : Nat} {vs : List Value} (h : LiesB B w a n vs) {j : Nat} (hj : j < n) : ∃ b off, a = some ⟨b, off, none⟩ ∧ b < B ∧ w.cell? ⟨b, off + j, none⟩ = vs[j]? := by
  obtain ⟨b, off, e, hb, hc⟩ := h.2 (by omega)
  exact ⟨b, off, e, hb, hc j hj⟩
theorem Lies.at {w : World} {a : Option Addr} {n : Nat} {vs : List Value} (h : Lies w a n vs) {j : Nat} (hj : j < n) : ∃ b off, a = some ⟨b, off, none⟩ ∧ b < w.heap.size ∧ w.cell? ⟨b, off + j, none⟩ = vs[j]? := LiesB.at h hj

/-- block g is a row of the values vs, not frozen -/
def Blk (w : World) (g : Nat) (t : TypeId) (vs : List Value) : Prop := w.heap[g]? = some (.cells vs.toArray t (0, 0))
theorem Blk.lt {w : World} {g : Nat} {t : TypeId} {vs : List Value} (h : Blk w g t vs) : g < w.heap.size := (Array.getElem?_eq_some_iff.1 h).1
theorem Blk.cell {w : World} {g : Nat} {t : TypeId} {vs : List Value} (h : Blk w g t vs) (j : Nat) : w.cell? ⟨g, j, none⟩ = vs[j]? := by
  rw [cell_of_row w g j _ t (0, 0) h]; simp
theorem Blk.free {w : World} {g : Nat} {t : TypeId} {vs : List Value} (h : Blk w g t vs) (j : Nat) : w.frozen? ⟨g, j, none⟩ = false := frozen_of_row w g j _ t h
theorem Blk.set {w : World} {g : Nat} {t : TypeId} {vs : List Value} (h : Blk w g t vs) (j : Nat) (v : Value) : Blk (w.setCell ⟨g, j, none⟩ v) g t (vs.set j v) := by
  have := heap_setCell_same w g j _ t v h
  simpa [Blk] using this
theorem Blk.other {w : World} {g : Nat} {t : TypeId} {vs : List Value} (h : Blk w g t vs) {a : Addr} (hne : g ≠ a.block) (v : Value) : Blk (w.setCell a v) g t vs :=
  (heap_setCell_other w a g v hne).trans h
theorem Blk.alloc {w : World} {g : Nat} {t : TypeId} {vs : List Value} (h : Blk w g t vs) (o : Obj) : Blk (w.alloc o) g t vs := (Below.heap_alloc w o g h.lt).trans h
theorem Blk.below {w w' : World} {g : Nat} {t : TypeId} {vs : List Value} (h : Blk w g t vs) {B : Nat} (hb : Below B w w') (hg : g < B) : Blk w' g t vs := (hb.block g hg).trans h
theorem Blk.lies {w : World} {g : Nat} {t : TypeId} {vs : List Value} (h : Blk w g t vs) : Lies w (some ⟨g, 0, none⟩) vs.length vs :=
  ⟨rfl, fun _ => ⟨g, 0, rfl, h.lt, fun j _ => by rw [Nat.zero_add]; exact h.cell j⟩⟩
theorem Blk.new (w : World) (t : TypeId) (vs : List Value) : Blk (w.alloc (.cells vs.toArray t)) w.heap.size t vs := heap_alloc_new w _
theorem blk_of_own {w : World} {B e g n : Nat} {xs : List Value} (h : w.ownsRow B e 1 (.slice (some ⟨g, 0, none⟩) n n) n xs) : Blk w g e xs := by
  rcases h.2 with ⟨h', _⟩ | ⟨g', cap, cur, h', _, hg, _, _, hs, ht⟩
  · simp at h'
  · simp only [Value.slice.injEq, Option.some.injEq, Addr.mk.injEq, and_true, true_and] at h'
    obtain ⟨rfl, rfl⟩ := h'
    rw [List.take_of_length_le (by simp; omega)] at ht
    subst ht
    simpa [Blk] using hg

theorem splice_all (L cs : List Value) (h : L.length = cs.length) : splice L 0 cs = cs := by
  unfold splice
  rw [List.drop_eq_nil_of_le (by omega)]
  simp

def vi (zs : List Int) : List Value := zs.map (Value.int .i32)
def vf (xs : List Nat) : List Value := xs.map (Value.float .f64)
theorem vi_len (zs : List Int) : (vi zs).length = zs.length := by simp [vi]
theorem vf_len (xs : List Nat) : (vf xs).length = xs.length := by simp [vf]
theorem vi_at (zs : List Int) (j : Nat) (h : j < zs.length) : (vi zs)[j]? = some (.int .i32 (zs.getD j 0)) := by simp [vi, List.getElem?_eq_getElem h]
theorem vf_at (xs : List Nat) (j : Nat) (h : j < xs.length) : (vf xs)[j]? = some (.float .f64 (xs.getD j 0)) := by simp [vf, List.getElem?_eq_getElem h]

/-- behind a 'make' of n one-cell elements -/
theorem made {w w1 : World} {e n : Nat} {z : Value} (hown : w1.ownsRow w.heap.size e 1 (.slice (some ⟨w.heap.size, 0, none⟩) n n) n (madeCells #[z] (n * 1)).toList) (hgrow : w.grownBy w1 none) :
    Hid (Blk w1 w.heap.size e (List.replicate n z)) ∧ Below w.heap.size w w1 := by
  rw [Nat.mul_one, toList_madeCells_one] at hown
  exact ⟨blk_of_own hown, (Below.refl _ _).grown hgrow (Nat.le_refl _) (fun j hj => by cases hj)⟩

/-! ### copies -/
theorem clone_nil (w : World) : Calls Trym.prog 10 #[.slice none 0 0] w fun e w' => e = .returned (.slice none 0 0) ∧ w' = w := by
  have hq := fun w => Lib.run_eql_slice_nil (P := Trym.prog) w 28 21 none 0 0 0 0 Trym.underlying28
  go_enter Trym.func10, Trym.ntmps10
  go_wp2
  go_ret
  exact ⟨rfl, rfl⟩
theorem clonef_nil (w : World) : Calls Trym.prog 9 #[.slice none 0 0] w fun e w' => e = .returned (.slice none 0 0) ∧ w' = w := by
  have hq := fun w => Lib.run_eql_slice_nil (P := Trym.prog) w 26 27 none 0 0 0 0 Trym.underlying26
  go_enter Trym.func9, Trym.ntmps9
  go_wp2
  go_ret
  exact ⟨rfl, rfl⟩

set_option maxRecDepth 100000 in
theorem clone_some (x : Addr) (n c : Nat) (zs : List Int) (w : World) (hn : n ≤ 1048576) (hz : Lies w (some x) n (vi zs)) :
    Calls Trym.prog 10 #[.slice (some x) n c] w fun e w' => e = .returned (.slice (some ⟨w.heap.size, 0, none⟩) n n) ∧ Blk w' w.heap.size 21 (vi zs) ∧ Below w.heap.size w w' := by
  have hq := fun w => Lib.run_eql_slice_nil (P := Trym.prog) w 28 21 (some x) n c 0 0 Trym.underlying28
  obtain ⟨i0, hi, hz0, hz1, hz2⟩ := info_parts Trym.info21
  have hl : (vi zs).length = n := hz.1
  obtain ⟨vs, hvs⟩ : ∃ vs, vs = vi zs := ⟨_, rfl⟩
  have h1c : ∀ v ∈ vs, v.oneCell' = true := by
    intro v hv
    rw [hvs] at hv
    obtain ⟨z, _, rfl⟩ := List.mem_map.1 hv
    rfl
  rw [← hvs] at hz hl ⊢
  clear hvs
  go_enter Trym.func10, Trym.ntmps10
  go_wp2_with (first
    | (at_make; refine wpList_make_full _ rfl _ _ 28 rfl w.heap.size 21 i0 (.int .i32 0) 1 Trym.underlying28 hi hz0 hz1 .i64 .i64 _ _ n rfl rfl rfl rfl (by rw [hz2]; omega) (by unfold maxLen; omega) (Nat.le_refl _) ?_; intro w1 hown hgrow; obtain ⟨HB, hb1⟩ := made hown hgrow; clear hown hgrow)
    | (refine wpList_copy_splice rfl (.tmp 9) (.tmp 10) 28 28 rfl 21 Trym.underlying28 Trym.size21 _ _ n n n c rfl rfl w.heap.size 0 (List.replicate n (.int .i32 0)) 21 HB.out vs (by rw [hl]; simp) (fun hp => ⟨rfl, x, rfl, fun j v hv => ?_⟩) (by rw [List.length_replicate]; omega) h1c w.heap.size w hb1 (Nat.le_refl _) ?_)
    | fail)
  · have hj : j < n := by rw [← hl]; exact (List.getElem?_eq_some_iff.1 hv).1
    obtain ⟨b, off, hx, _, hc⟩ := (hz.below hb1).at hj
    obtain rfl : x = ⟨b, off, none⟩ := by simpa using hx
    rw [add_plain, hc, hv]
  · intro w2 HG hb2
    have HG2 : Hid (Blk w2 w.heap.size 21 vs) := by
      have := HG.out
      rw [splice_all _ _ (by rw [List.length_replicate, hl])] at this
      exact this
    clear HG
    go_wp2
    go_ret
    exact ⟨rfl, HG2.out, hb2⟩
theorem clone_any (a : Option Addr) (n c : Nat) (zs : List Int) (w : World) (hn : n ≤ 1048576) (h0 : a = none → n = 0 ∧ c = 0) (hz : Lies w a n (vi zs)) :
    Calls Trym.prog 10 #[.slice a n c] w fun e w' => ∃ a', e = .returned (.slice a' n n) ∧ (a' = none → n = 0) ∧ (∀ y, a' = some y → w.heap.size ≤ y.block) ∧ Lies w' a' n (vi zs) ∧ Below w.heap.size w w' := by
  cases a with
  | none =>
    obtain ⟨rfl, rfl⟩ := h0 rfl
    refine (clone_nil w).mono ?_
    rintro e w' ⟨rfl, rfl⟩
    exact ⟨none, rfl, fun _ => rfl, (fun y h => by cases h), hz, Below.refl _ _⟩
  | some x =>
    have hl : (vi zs).length = n := hz.1
    refine (clone_some x n c zs w hn hz).mono ?_
    rintro e w' ⟨rfl, hb, hbel⟩
    exact ⟨_, rfl, (fun h => by cases h), (fun y h => by cases h; exact Nat.le_refl _), hl ▸ hb.lies, hbel⟩

set_option maxRecDepth 100000 in
theorem clonef_some (x : Addr) (n c : Nat) (zs : List Nat) (w : World) (hn : n ≤ 1048576) (hz : Lies w (some x) n (vf zs)) :
    Calls Trym.prog 9 #[.slice (some x) n c] w fun e w' => e = .returned (.slice (some ⟨w.heap.size, 0, none⟩) n n) ∧ Blk w' w.heap.size 27 (vf zs) ∧ Below w.heap.size w w' := by
  have hq := fun w => Lib.run_eql_slice_nil (P := Trym.prog) w 26 27 (some x) n c 0 0 Trym.underlying26
  obtain ⟨i0, hi, hz0, hz1, hz2⟩ := info_parts Trym.info27
  have hl : (vf zs).length = n := hz.1
  obtain ⟨vs, hvs⟩ : ∃ vs, vs = vf zs := ⟨_, rfl⟩
  have h1c : ∀ v ∈ vs, v.oneCell' = true := by
    intro v hv
    rw [hvs] at hv
    obtain ⟨z, _, rfl⟩ := List.mem_map.1 hv
    rfl
  rw [← hvs] at hz hl ⊢
  clear hvs
  go_enter Trym.func9, Trym.ntmps9
  go_wp2_with (first
    | (at_make; refine wpList_make_full _ rfl _ _ 26 rfl w.heap.size 27 i0 (.float .f64 0) 1 Trym.underlying26 hi hz0 hz1 .i64 .i64 _ _ n rfl rfl rfl rfl (by rw [hz2]; omega) (by unfold maxLen; omega) (Nat.le_refl _) ?_; intro w1 hown hgrow; obtain ⟨HB, hb1⟩ := made hown hgrow; clear hown hgrow)
    | (refine wpList_copy_splice rfl (.tmp 9) (.tmp 10) 26 26 rfl 27 Trym.underlying26 Trym.size27 _ _ n n n c rfl rfl w.heap.size 0 (List.replicate n (.float .f64 0)) 27 HB.out vs (by rw [hl]; simp) (fun hp => ⟨rfl, x, rfl, fun j v hv => ?_⟩) (by rw [List.length_replicate]; omega) h1c w.heap.size w hb1 (Nat.le_refl _) ?_)
    | fail)
  · have hj : j < n := by rw [← hl]; exact (List.getElem?_eq_some_iff.1 hv).1
    obtain ⟨b, off, hx, _, hc⟩ := (hz.below hb1).at hj
    obtain rfl : x = ⟨b, off, none⟩ := by simpa using hx
    rw [add_plain, hc, hv]
  · intro w2 HG hb2
    have HG2 : Hid (Blk w2 w.heap.size 27 vs) := by
      have := HG.out
      rw [splice_all _ _ (by rw [List.length_replicate, hl])] at this
      exact this
    clear HG
    go_wp2
    go_ret
    exact ⟨rfl, HG2.out, hb2⟩
theorem clonef_any (a : Option Addr) (n c : Nat) (zs : List Nat) (w : World) (hn : n ≤ 1048576) (h0 : a = none → n = 0 ∧ c = 0) (hz : Lies w a n (vf zs)) :
    Calls Trym.prog 9 #[.slice a n c] w fun e w' => ∃ a', e = .returned (.slice a' n n) ∧ (a' = none → n = 0) ∧ (∀ y, a' = some y → w.heap.size ≤ y.block) ∧ Lies w' a' n (vf zs) ∧ Below w.heap.size w w' := by
  cases a with
  | none =>
    obtain ⟨rfl, rfl⟩ := h0 rfl
    refine (clonef_nil w).mono ?_
    rintro e w' ⟨rfl, rfl⟩
    exact ⟨none, rfl, fun _ => rfl, (fun y h => by cases h), hz, Below.refl _ _⟩
  | some x =>
    have hl : (vf zs).length = n := hz.1
    refine (clonef_some x n c zs w hn hz).mono ?_
    rintro e w' ⟨rfl, hb, hbel⟩
    exact ⟨_, rfl, (fun h => by cases h), (fun y h => by cases h; exact Nat.le_refl _), hl ▸ hb.lies, hbel⟩

end Go.Proofs.Qxb6609269aMods
