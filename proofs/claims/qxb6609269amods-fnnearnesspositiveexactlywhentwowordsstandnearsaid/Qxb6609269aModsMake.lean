/-
  Seat b6609269aM: ZZnewRanker (11), ZZnewEntry (12).
-/
import Derived.Test.Qxb6609269aModsTable
namespace Go.Proofs.Qxb6609269aMods
open Go.RowKit

theorem Trym.info48 : (Trym.prog.info? 48).map (fun i => (i.zero, i.size, i.bytes)) = some (some (.agg #[.slice none 0 0, .slice none 0 0, .slice none 0 0]), 3, 72) := by kernel_rfl
theorem blk_of_own3 {w : World} {B e g n : Nat} {xs : List Value} (h : w.ownsRow B e 3 (.slice (some ⟨g, 0, none⟩) n n) n xs) : Blk w g e xs := by
  rcases h.2 with ⟨h', _⟩ | ⟨g', cap, cur, h', _, hg, _, _, hs, ht⟩
  · simp at h'
  · simp only [Value.slice.injEq, Option.some.injEq, Addr.mk.injEq, and_true, true_and] at h'
    obtain ⟨rfl, rfl⟩ := h'
    rw [List.take_of_length_le (by simp; omega)] at ht
    subst ht
    simpa [Blk] using hg

theorem store_float (w : World) (a : Addr) (m : Mode) (x : Nat) : (store a (.float .f64 x) m).run Trym.prog w = stored Trym.prog w a (.float .f64 x) m := run_store Trym.prog w a _ m rfl
/-- word j of the ranker's own list -/
def WordH (w : World) (xs : List Value) (ts : List (List Int)) (j : Nat) : Prop :=
  ∃ aj cj, xs[j * 3 + 2]? = some (.slice aj (ts.getD j []).length cj) ∧ LiesB w.heap.size w aj (ts.getD j []).length (vi (ts.getD j []))
theorem word_step {w wr : World} {G n k : Nat} {xs : List Value} {ts : List (List Int)} {ai : Option Addr} {ci : Nat} (hk : k < n) (hB : Blk wr G 48 xs) (hl : xs.length = n * 3) (hw : ∀ j, j < k → WordH w xs ts j) (hb : Below G w wr)
    (hL : LiesB w.heap.size w ai (ts.getD k []).length (vi (ts.getD k []))) :
    ∃ xs', Blk (((wr.setCell ⟨G, k * 3, none⟩ (.slice none 0 0)).setCell ⟨G, k * 3 + 1, none⟩ (.slice none 0 0)).setCell ⟨G, k * 3 + 2, none⟩ (.slice ai (ts.getD k []).length ci)) G 48 xs' ∧ xs'.length = n * 3 ∧ (∀ j, j < k + 1 → WordH w xs' ts j) ∧
      Below G w (((wr.setCell ⟨G, k * 3, none⟩ (.slice none 0 0)).setCell ⟨G, k * 3 + 1, none⟩ (.slice none 0 0)).setCell ⟨G, k * 3 + 2, none⟩ (.slice ai (ts.getD k []).length ci)) := by
  refine ⟨_, ((hB.set _ _).set _ _).set _ _, by simpa using hl, fun j hj => ?_, ((hb.setCell (Nat.le_refl _) _).setCell (Nat.le_refl _) _).setCell (Nat.le_refl _) _⟩
  by_cases e : j = k
  · subst e
    exact ⟨ai, ci, by rw [List.getElem?_set, if_pos rfl, if_pos (by simp; omega)], hL⟩
  · obtain ⟨aj, cj, e1, e2⟩ := hw j (by omega)
    refine ⟨aj, cj, ?_, e2⟩
    rw [List.getElem?_set, if_neg (by omega), List.getElem?_set, if_neg (by omega), List.getElem?_set, if_neg (by omega)]
    exact e1

def rkCells (gM gP n : Nat) (af : Option Addr) (nf cf avg : Nat) : List Value :=
  [.pointer (some ⟨gM, 0, none⟩), .slice af nf cf, .float .f64 0, .float .f64 0, .float .f64 0, .float .f64 0, .float .f64 avg, .slice (some ⟨gP, 0, none⟩) n n]
def mtCells (gW n : Nat) : List Value := [.string { data := #[] }, .slice (some ⟨gW, 0, none⟩) n n, .slice none 0 0, .slice none 0 0]
/-- a ranker, its matcher, its list of words -/
def Rnk (w : World) (gW gM gP gR n : Nat) (af : Option Addr) (nf cf avg : Nat) (xs : List Value) : Prop :=
  Blk w gR 56 (rkCells gM gP n af nf cf avg) ∧ Blk w gM 52 (mtCells gW n) ∧ Blk w gW 48 xs ∧ gW < gM ∧ gM < gP ∧ gP < gR

theorem rnk_made {w wr w2 : World} {n : Nat} {xs : List Value} {af : Option Addr} {nf cf avg : Nat} (hB : Blk wr w.heap.size 48 xs) (hb : Below w.heap.size w wr)
    (hown : w2.ownsRow (wr.heap.size + 1) 41 1 (.slice (some ⟨(wr.alloc (.cells (mtCells w.heap.size n).toArray 52)).heap.size, 0, none⟩) n n) n (madeCells #[.slice none 0 0] (n * 1)).toList)
    (hgrow : (wr.alloc (.cells (mtCells w.heap.size n).toArray 52)).grownBy w2 none) :
    Rnk (w2.alloc (.cells (rkCells wr.heap.size (wr.heap.size + 1) n af nf cf avg).toArray 56)) w.heap.size wr.heap.size (wr.heap.size + 1) w2.heap.size n af nf cf avg xs ∧
      Blk (w2.alloc (.cells (rkCells wr.heap.size (wr.heap.size + 1) n af nf cf avg).toArray 56)) (wr.heap.size + 1) 41 (List.replicate n (.slice none 0 0)) ∧ Below w.heap.size w (w2.alloc (.cells (rkCells wr.heap.size (wr.heap.size + 1) n af nf cf avg).toArray 56)) := by
  have e : (wr.alloc (.cells (mtCells w.heap.size n).toArray 52)).heap.size = wr.heap.size + 1 := by simp
  rw [e, Nat.mul_one, toList_madeCells_one] at hown
  have hlt := hB.lt
  have hP := blk_of_own hown
  have hM : Blk (wr.alloc (.cells (mtCells w.heap.size n).toArray 52)) wr.heap.size 52 (mtCells w.heap.size n) := Blk.new _ _ _
  have hM2 : Blk w2 wr.heap.size 52 (mtCells w.heap.size n) := (hgrow.block _ (by rw [e]; omega) (by simp)).trans hM
  have hW2 : Blk w2 w.heap.size 48 xs := (hgrow.block _ (by rw [e]; omega) (by simp)).trans (hB.alloc _)
  have hsz := hgrow.size
  rw [e] at hsz
  have hPl := hP.lt
  refine ⟨⟨Blk.new _ _ _, hM2.alloc _, hW2.alloc _, hlt, by omega, hPl⟩, hP.alloc _, ?_⟩
  exact (((hb.alloc hb.size _).grown hgrow (by rw [e]; have := hb.size; omega) (fun j hj => by cases hj))).alloc (by have := hb.size; omega) _

set_option maxHeartbeats 1600000 in
set_option maxRecDepth 100000 in
theorem ranker_any (a : Option Addr) (n c : Nat) (ts : List (List Int)) (af : Option Addr) (nf cf avg : Nat) (w : World) (hn : n ≤ 256) (hT : Terms w.heap.size w a n ts) :
    Calls Trym.prog 11 #[.slice a n c, .slice af nf cf, .float .f64 avg] w fun e w' => ∃ gM gP gR xs, e = .returned (.pointer (some ⟨gR, 0, none⟩)) ∧ Rnk w' w.heap.size gM gP gR n af nf cf avg xs ∧ Blk w' gP 41 (List.replicate n (.slice none 0 0)) ∧ (∀ j, j < n → WordH w xs ts j) ∧ Below w.heap.size w w' := by
  obtain ⟨i0, hi, hz0, hz1, hz2⟩ := info_parts Trym.info48
  obtain ⟨j0, hj, hy0, hy1, hy2⟩ := info_parts Trym.info41
  have HT : Hid (Terms w.heap.size w a n ts) := hT
  clear hT
  go_enter Trym.func11, Trym.ntmps11
  go_wp2_with (first
    | (at_make; refine wpList_make_full _ rfl _ _ 45 rfl w.heap.size 48 i0 (.agg #[.slice none 0 0, .slice none 0 0, .slice none 0 0]) 3 Trym.underlying45 hi hz0 hz1 .i64 .i64 _ _ n rfl rfl rfl rfl (by rw [hz2]; omega) (by unfold maxLen; omega) (Nat.le_refl _) ?_; intro w1 hown hgrow)
    | fail)
  have hlen := hown.1
  have HB : Hid (Blk w1 w.heap.size 48 _) := blk_of_own3 hown
  have hb1 : Below w.heap.size w w1 := (Below.refl _ _).grown hgrow (Nat.le_refl _) (fun j hj => by cases hj)
  obtain ⟨xs0, hxs0⟩ : ∃ xs, xs = (madeCells (Value.agg #[.slice none 0 0, .slice none 0 0, .slice none 0 0]).cells (n * 3)).toList := ⟨_, rfl⟩
  rw [← hxs0] at hlen HB
  clear hown hgrow hxs0
  go_loopw [15] (fun i wr => ∃ (k : Nat) (xs : List Value), k ≤ n ∧ i = .int .i64 k ∧ Blk wr w.heap.size 48 xs ∧ xs.length = n * 3 ∧ (∀ j, j < k → WordH w xs ts j) ∧ Below w.heap.size w wr)
    (fun i _ => n - (intOf i).toNat)
  case atStart => exact ⟨0, xs0, Nat.zero_le _, rfl, HB.out, hlen, fun j hj => by omega, hb1⟩
  case round =>
    clear HB hb1 hlen
    obtain ⟨k, xs, hk, rfl, hB, hl, hw, hb⟩ := hrel
    by_cases hlt : k < n
    · obtain ⟨b, off, ai, ci, rfl, hbw, hcx, _, hLi⟩ := HT.out.at hlt
      rw [← hb.cell (p := ⟨b, off + k, none⟩) hbw] at hcx
      obtain ⟨u0, hu0⟩ : ∃ u, wr.cell? ⟨w.heap.size, k * 3, none⟩ = some u := ⟨xs[k * 3]'(by omega), by rw [hB.cell]; exact List.getElem?_eq_getElem (by omega)⟩
      obtain ⟨u1, hu1⟩ : ∃ u, wr.cell? ⟨w.heap.size, k * 3 + 1, none⟩ = some u := ⟨xs[k * 3 + 1]'(by omega), by rw [hB.cell]; exact List.getElem?_eq_getElem (by omega)⟩
      obtain ⟨u2, hu2⟩ : ∃ u, wr.cell? ⟨w.heap.size, k * 3 + 2, none⟩ = some u := ⟨xs[k * 3 + 2]'(by omega), by rw [hB.cell]; exact List.getElem?_eq_getElem (by omega)⟩
      have f0 := hB.free (k * 3)
      have f1 := hB.free (k * 3 + 1)
      have f2 := hB.free (k * 3 + 2)
      have HS : Hid _ := word_step (ci := ci) hlt hB hl hw hb hLi
      obtain ⟨m, hm'⟩ : ∃ m, m = (ts.getD k []).length := ⟨_, rfl⟩
      rw [← hm'] at hcx HS
      clear hm' hB hw hLi
      go_wp2
      go_roundw
      case rel =>
        obtain ⟨xs', r1, r2, r3, r4⟩ := HS.out
        exact ⟨k + 1, xs', by omega, by go_num, r1, r2, r3, r4⟩
      case measure => simp [intOf]; omega
    · obtain rfl : k = n := by omega
      have HB : Hid (Blk wr w.heap.size 48 xs) := hB
      have HW : Hid (∀ j, j < k → WordH w xs ts j) := hw
      have hsf := store_float
      clear hB hw
      go_wp2_with (first
        | (at_make; refine wpList_make_full _ rfl _ _ 53 rfl (wr.heap.size + 1) 41 j0 (.slice none 0 0) 1 Trym.underlying53 hj hy0 hy1 .i64 .i64 _ _ k rfl rfl rfl rfl (by rw [hy2]; omega) (by unfold maxLen; omega) (by simp) ?_; intro w2 hown hgrow)
        | fail)
      go_ret
      have R := rnk_made (af := af) (nf := nf) (cf := cf) (avg := avg) HB.out hb hown hgrow
      exact ⟨wr.heap.size, wr.heap.size + 1, w2.heap.size, xs, rfl, R.1, R.2.1, HW.out, R.2.2⟩

theorem Trym.size29 : (Trym.prog.info? 29).map (·.size) = some 4 := by kernel_rfl
def enCells (a : Option Addr) (n c : Nat) (l0 l1 l2 l3 : Int) : List Value :=
  [.int .i64 0, .int .i64 0, .string { data := #[] }, .string { data := #[] }, .string { data := #[] }, .string { data := #[] }, .string { data := #[] }, .bool false, .string { data := #[] }, .bool false, .string { data := #[] }, .bool false, .slice none 0 0,
   .int .i32 0, .int .i32 0, .int .i32 0, .int .i32 0, .slice none 0 0, .slice a n c, .int .i32 l0, .int .i32 l1, .int .i32 l2, .int .i32 l3]

set_option maxHeartbeats 800000 in
set_option maxRecDepth 100000 in
theorem entry_any (a : Option Addr) (n c : Nat) (l0 l1 l2 l3 : Int) (w : World) :
    Calls Trym.prog 12 #[.slice a n c, .agg #[.int .i32 l0, .int .i32 l1, .int .i32 l2, .int .i32 l3]] w fun e w' => ∃ gE, e = .returned (.pointer (some ⟨gE, 0, none⟩)) ∧ w.heap.size ≤ gE ∧ Blk w' gE 64 (enCells a n c l0 l1 l2 l3) ∧ Below w.heap.size w w' := by
  go_enter Trym.func12, Trym.ntmps12
  go_wp2
  go_ret
  exact ⟨w.heap.size + 1, rfl, Nat.le_succ _, heap_alloc2_new w _ (.cells (enCells a n c l0 l1 l2 l3).toArray 64), ((Below.refl _ _).alloc (Nat.le_refl _) _).alloc (by simp) _⟩
end Go.Proofs.Qxb6609269aMods
