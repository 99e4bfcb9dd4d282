/-
  Seat b6609269aM: b1TextNumbers (15), b1CloneTerms (8).
-/
import Derived.Test.Qxb6609269aModsPair
namespace Go.Proofs.Qxb6609269aMods
open Go.RowKit

/-- how many breaks stand among the first a of the sequence -/
def br (zs : List Int) (a : Nat) : Nat := (zs.take a).count (-1)
theorem br_zero (zs : List Int) : br zs 0 = 0 := rfl
theorem br_le (zs : List Int) (a : Nat) : br zs a ≤ a := Nat.le_trans List.count_le_length (List.length_take_le _ _)
theorem br_hit (zs : List Int) (k : Nat) (hk : k < zs.length) (h : zs.getD k 0 = -1) : br zs (k + 1) = br zs k + 1 := by
  unfold br
  rw [take_snoc zs 0 k hk, List.count_append, h]
  rfl
theorem br_miss (zs : List Int) (k : Nat) (hk : k < zs.length) (h : zs.getD k 0 ≠ -1) : br zs (k + 1) = br zs k := by
  unfold br
  rw [take_snoc zs 0 k hk, List.count_append]
  generalize zs.getD k 0 = y at *
  have : List.count (-1) [y] = 0 := List.count_eq_zero.2 (by
    intro hm
    rw [List.mem_singleton] at hm
    exact h hm.symm)
  omega

set_option maxHeartbeats 800000 in
set_option maxRecDepth 100000 in
theorem text_any (a : Option Addr) (n c : Nat) (zs : List Int) (w : World) (hn : n ≤ 4096) (hz : Lies w a n (vi zs)) :
    Calls Trym.prog 15 #[.slice a n c] w fun e w' => e = .returned (.slice (some ⟨w.heap.size, 0, none⟩) n n) ∧ RowF w' w.heap.size n (fun j => .int .i64 (br zs (j + 1))) ∧ w.heap.size < w'.heap.size ∧ Below w.heap.size w w' := by
  have hlen : zs.length = n := by have := hz.1; rwa [vi_len] at this
  have HZ : Hid (Lies w a n (vi zs)) := hz
  obtain ⟨i0, hi, hz0, hz1, hz2⟩ := info_parts Trym.info3
  clear hz
  go_enter Trym.func15, Trym.ntmps15
  go_wp2_with (first
    | (at_make; refine wpList_make_full _ rfl _ _ 41 rfl w.heap.size 3 i0 (.int .i64 0) 1 Trym.underlying41 hi hz0 hz1 .i64 .i64 _ _ n rfl rfl rfl rfl (by rw [hz2]; omega) (by unfold maxLen; omega) (Nat.le_refl _) ?_; intro w1 hown hgrow; obtain ⟨HB, hb1⟩ := made hown hgrow; clear hown hgrow)
    | fail)
  go_loopw [4, 5] (fun u i wr => ∃ (k : Nat) (xs : List Value), k ≤ n ∧ i = .int .i64 k ∧ u = .int .i64 (br zs k) ∧ Blk wr w.heap.size 3 xs ∧ xs.length = n ∧ (∀ j, j < k → xs[j]? = some (.int .i64 (br zs (j + 1)))) ∧ Below w.heap.size w wr)
    (fun _ i _ => n - (intOf i).toNat)
  case atStart => exact ⟨0, _, Nat.zero_le _, rfl, rfl, HB.out, by simp, fun j hj => by omega, hb1⟩
  case round =>
    clear HB hb1
    obtain ⟨k, xs, hk, rfl, rfl, hB, hxl, hxs, hb⟩ := hrel
    by_cases hlt : k < n
    · obtain ⟨b, off, rfl, hbw, hcx⟩ := HZ.out.at hlt
      rw [vi_at zs k (by omega), ← hb.cell (p := ⟨b, off + k, none⟩) hbw] at hcx
      obtain ⟨u, hu⟩ : ∃ u, wr.cell? ⟨w.heap.size, k, none⟩ = some u := ⟨xs[k]'(by omega), by rw [hB.cell k]; exact List.getElem?_eq_getElem (by omega)⟩
      have hf := hB.free k
      have HR : Hid (∀ v, v = Value.int .i64 (br zs (k + 1)) → ∃ xs', Blk (wr.setCell ⟨w.heap.size, k, none⟩ v) w.heap.size 3 xs' ∧ xs'.length = n ∧ (∀ j, j < k + 1 → xs'[j]? = some (.int .i64 (br zs (j + 1)))) ∧ Below w.heap.size w (wr.setCell ⟨w.heap.size, k, none⟩ v)) := by
        intro v hv
        refine ⟨_, hB.set k v, by simpa using hxl, fun j hj => ?_, hb.setCell (Nat.le_refl _) _⟩
        rw [List.getElem?_set]
        by_cases e : k = j
        · subst e; rw [if_pos rfl, if_pos (by omega), hv]
        · rw [if_neg e]; exact hxs j (by omega)
      have hbr := br_le zs k
      have h1 : Hid (zs.getD k 0 = -1 → br zs (k + 1) = br zs k + 1) := br_hit zs k (by omega)
      have h2 : Hid (zs.getD k 0 ≠ -1 → br zs (k + 1) = br zs k) := br_miss zs k (by omega)
      obtain ⟨y, hy⟩ : ∃ y, y = zs.getD k 0 := ⟨_, rfl⟩
      rw [← hy] at hcx h1 h2
      obtain ⟨r, hr⟩ : ∃ r, r = br zs k := ⟨_, rfl⟩
      rw [← hr] at hbr h1 h2 ⊢
      clear hB hxs hy hr
      by_cases hy1 : y = -1
      · have H1 := h1.out hy1
        have H1' : Hid (br zs (k + 1) = r + 1) := H1
        have hb1 : (y == -1) = true := by simp [hy1]
        clear H1 h1 h2 hy1
        go_wp2
        go_roundw
        case rel =>
          obtain ⟨xs', r1, r2, r3, r4⟩ := HR.out (.int .i64 ((r : Int) + 1)) (by rw [H1'.out]; rfl)
          exact ⟨k + 1, xs', by omega, by go_num, by rw [H1'.out]; rfl, r1, r2, r3, r4⟩
        case measure => simp [intOf]; omega
      · have H1 := h2.out hy1
        have H1' : Hid (br zs (k + 1) = r) := H1
        have hb1 : (y == -1) = false := by simp [hy1]
        clear H1 h1 h2 hy1
        go_wp2
        go_roundw
        case rel =>
          obtain ⟨xs', r1, r2, r3, r4⟩ := HR.out (.int .i64 (r : Int)) (by rw [H1'.out])
          exact ⟨k + 1, xs', by omega, by go_num, by rw [H1'.out], r1, r2, r3, r4⟩
        case measure => simp [intOf]; omega
    · obtain rfl : k = n := by omega
      go_wp2
      go_ret
      exact ⟨rfl, fun j hj => by rw [hB.cell j]; exact hxs j hj, hB.lt, hb⟩

/-! ### the query's words: a slice of slices of numbers -/
def Terms (B : Nat) (w : World) (a : Option Addr) (n : Nat) (ts : List (List Int)) : Prop :=
  ts.length = n ∧ ∃ hs : List Value, LiesB B w a n hs ∧ ∀ i, i < n → ∃ ai ci, hs[i]? = some (.slice ai (ts.getD i []).length ci) ∧ (ai = none → (ts.getD i []).length = 0 ∧ ci = 0) ∧ LiesB B w ai (ts.getD i []).length (vi (ts.getD i []))
theorem Terms.keep {B B' : Nat} {w w' : World} {a : Option Addr} {n : Nat} {ts : List (List Int)} (h : Terms B w a n ts) (hs : B ≤ B') (hb : ∀ b, b < B → w'.heap[b]? = w.heap[b]?) : Terms B' w' a n ts := by
  obtain ⟨h1, hd, h2, h3⟩ := h
  refine ⟨h1, hd, h2.keep hs (fun b _ _ hlt => hb b hlt), fun i hi => ?_⟩
  obtain ⟨ai, ci, e1, e2, e3⟩ := h3 i hi
  exact ⟨ai, ci, e1, e2, e3.keep hs (fun b _ _ hlt => hb b hlt)⟩
theorem Terms.below {B : Nat} {w w' : World} {a : Option Addr} {n : Nat} {ts : List (List Int)} (h : Terms B w a n ts) (hb : Below B w w') : Terms B w' a n ts := h.keep (Nat.le_refl _) hb.block
theorem Terms.mono {B B' : Nat} {w : World} {a : Option Addr} {n : Nat} {ts : List (List Int)} (h : Terms B w a n ts) (hs : B ≤ B') : Terms B' w a n ts := h.keep hs (fun _ _ => rfl)
/-- word i: its header's cell, its numbers -/
theorem Terms.at {B : Nat} {w : World} {a : Option Addr} {n : Nat} {ts : List (List Int)} (h : Terms B w a n ts) {i : Nat} (hi : i < n) :
    ∃ b off ai ci, a = some ⟨b, off, none⟩ ∧ b < B ∧ w.cell? ⟨b, off + i, none⟩ = some (.slice ai (ts.getD i []).length ci) ∧ (ai = none → (ts.getD i []).length = 0 ∧ ci = 0) ∧ LiesB B w ai (ts.getD i []).length (vi (ts.getD i [])) := by
  obtain ⟨h1, hd, h2, h3⟩ := h
  obtain ⟨b, off, e, hb, hc⟩ := h2.at hi
  obtain ⟨ai, ci, e1, e2, e3⟩ := h3 i hi
  exact ⟨b, off, ai, ci, e, hb, by rw [hc, e1], e2, e3⟩

theorem ct_nil (w : World) : Calls Trym.prog 8 #[.slice none 0 0] w fun e w' => e = .returned (.slice none 0 0) ∧ w' = w := by
  have hq := fun w => Lib.run_eql_slice_nil (P := Trym.prog) w 25 28 none 0 0 0 0 Trym.underlying25
  go_enter Trym.func8, Trym.ntmps8
  go_wp2
  go_ret
  exact ⟨rfl, rfl⟩

/-- header j of the copy, and what it leads to -/
def Hdr (G : Nat) (wr : World) (hs : List Value) (ts : List (List Int)) (j : Nat) : Prop :=
  ∃ aj, hs[j]? = some (.slice aj (ts.getD j []).length (ts.getD j []).length) ∧ (aj = none → (ts.getD j []).length = 0) ∧ (∀ y, aj = some y → G < y.block) ∧ LiesB wr.heap.size wr aj (ts.getD j []).length (vi (ts.getD j []))

theorem ct_step {w wr w1 : World} {G n k : Nat} {hs : List Value} {ts : List (List Int)} {a' : Option Addr} (hk : k < n) (hG : G < wr.heap.size) (hl : hs.length = n) (hB : Blk wr G 28 hs) (hh : ∀ j, j < k → Hdr G wr hs ts j) (hb : Below G w wr)
    (hb1 : Below wr.heap.size wr w1) (ha0 : a' = none → (ts.getD k []).length = 0) (ha1 : ∀ y, a' = some y → wr.heap.size ≤ y.block) (hL : Lies w1 a' (ts.getD k []).length (vi (ts.getD k []))) :
    ∃ hs', Blk (w1.setCell ⟨G, k, none⟩ (.slice a' (ts.getD k []).length (ts.getD k []).length)) G 28 hs' ∧ hs'.length = n ∧ (∀ j, j < k + 1 → Hdr G (w1.setCell ⟨G, k, none⟩ (.slice a' (ts.getD k []).length (ts.getD k []).length)) hs' ts j) ∧
      Below G w (w1.setCell ⟨G, k, none⟩ (.slice a' (ts.getD k []).length (ts.getD k []).length)) ∧ wr.heap.size ≤ (w1.setCell ⟨G, k, none⟩ (.slice a' (ts.getD k []).length (ts.getD k []).length)).heap.size := by
  generalize hv : Value.slice a' (ts.getD k []).length (ts.getD k []).length = v
  have hB1 : Blk w1 G 28 hs := hB.below hb1 hG
  have hsz : (w1.setCell ⟨G, k, none⟩ v).heap.size = w1.heap.size := by simp [World.setCell]
  have keepL : ∀ (aj : Option Addr) (m : Nat) (vs : List Value), (∀ y, aj = some y → G < y.block) → LiesB w1.heap.size w1 aj m vs → LiesB (w1.setCell ⟨G, k, none⟩ v).heap.size (w1.setCell ⟨G, k, none⟩ v) aj m vs := by
    intro aj m vs hy h
    refine h.keep (by rw [hsz]; exact Nat.le_refl _) (fun b off e _ => heap_setCell_other w1 _ b v ?_)
    have := hy _ e
    show b ≠ G
    have h2 : G < b := this
    omega
  refine ⟨hs.set k v, hB1.set k v, by simpa using hl, fun j hj => ?_, (hb.trans (hb1.mono (by omega))).setCell (Nat.le_refl _) _, by rw [hsz]; exact hb1.size⟩
  by_cases e : k = j
  · subst e
    refine ⟨a', by rw [List.getElem?_set, if_pos rfl, if_pos (by omega), hv], ha0, fun y hy => ?_, keepL _ _ _ (fun y hy => ?_) hL⟩
    · have := ha1 y hy; omega
    · have := ha1 y hy; omega
  · obtain ⟨aj, e1, e2, e3, e4⟩ := hh j (by omega)
    refine ⟨aj, by rw [List.getElem?_set, if_neg e]; exact e1, e2, e3, keepL _ _ _ e3 ?_⟩
    exact (e4.below hb1).mono hb1.size

set_option maxHeartbeats 800000 in
set_option maxRecDepth 100000 in
theorem ct_some (x : Addr) (n c : Nat) (ts : List (List Int)) (w : World) (hn : n ≤ 256) (ht : ∀ i, (ts.getD i []).length ≤ 256) (hT : Terms w.heap.size w (some x) n ts) :
    Calls Trym.prog 8 #[.slice (some x) n c] w fun e w' => e = .returned (.slice (some ⟨w.heap.size, 0, none⟩) n n) ∧ Terms w'.heap.size w' (some ⟨w.heap.size, 0, none⟩) n ts ∧ Below w.heap.size w w' := by
  have hq := fun w => Lib.run_eql_slice_nil (P := Trym.prog) w 25 28 (some x) n c 0 0 Trym.underlying25
  obtain ⟨i0, hi, hz0, hz1, hz2⟩ := info_parts Trym.info28
  have HT : Hid (Terms w.heap.size w (some x) n ts) := hT
  have HTL : Hid (∀ i, (ts.getD i []).length ≤ 256) := ht
  clear hT ht
  go_enter Trym.func8, Trym.ntmps8
  go_wp2_with (first
    | (at_make; refine wpList_make_full _ rfl _ _ 25 rfl w.heap.size 28 i0 (.slice none 0 0) 1 Trym.underlying25 hi hz0 hz1 .i64 .i64 _ _ n rfl rfl rfl rfl (by rw [hz2]; omega) (by unfold maxLen; omega) (Nat.le_refl _) ?_; intro w1 hown hgrow; obtain ⟨HB, hb1⟩ := made hown hgrow; clear hown hgrow)
    | fail)
  go_loopw [4] (fun i wr => ∃ (k : Nat) (hs : List Value), k ≤ n ∧ i = .int .i64 k ∧ Blk wr w.heap.size 28 hs ∧ hs.length = n ∧ (∀ j, j < k → Hdr w.heap.size wr hs ts j) ∧ Below w.heap.size w wr)
    (fun i _ => n - (intOf i).toNat)
  case atStart => exact ⟨0, _, Nat.zero_le _, rfl, HB.out, by simp, fun j hj => by omega, hb1⟩
  case round =>
    clear HB hb1
    obtain ⟨k, hs, hk, rfl, hB, hl, hh, hb⟩ := hrel
    by_cases hlt : k < n
    · have hG := hB.lt
      obtain ⟨b, off, ai, ci, hx, hbw, hcx, hai, hLi⟩ := HT.out.at hlt
      obtain rfl : x = ⟨b, off, none⟩ := by simpa using hx
      rw [← hb.cell (p := ⟨b, off + k, none⟩) hbw] at hcx
      have hLr : Lies wr ai (ts.getD k []).length (vi (ts.getD k [])) := (hLi.below hb).mono hb.size
      have hm := HTL.out k
      obtain ⟨m, hm'⟩ : ∃ m, m = (ts.getD k []).length := ⟨_, rfl⟩
      have HS : Hid (∀ (w1 : World) (a' : Option Addr), Below wr.heap.size wr w1 → (a' = none → m = 0) → (∀ y, a' = some y → wr.heap.size ≤ y.block) → Lies w1 a' m (vi (ts.getD k [])) →
          ∃ hs', Blk (w1.setCell ⟨w.heap.size, k, none⟩ (.slice a' m m)) w.heap.size 28 hs' ∧ hs'.length = n ∧ (∀ j, j < k + 1 → Hdr w.heap.size (w1.setCell ⟨w.heap.size, k, none⟩ (.slice a' m m)) hs' ts j) ∧
          Below w.heap.size w (w1.setCell ⟨w.heap.size, k, none⟩ (.slice a' m m)) ∧ wr.heap.size ≤ (w1.setCell ⟨w.heap.size, k, none⟩ (.slice a' m m)).heap.size) := by
        intro w1 a' q1 q2 q3 q4
        rw [hm'] at q2 q4 ⊢
        exact ct_step hlt hG hl hB hh hb q1 q2 q3 q4
      obtain ⟨u, hu⟩ : ∃ u, hs[k]? = some u := ⟨hs[k]'(by omega), List.getElem?_eq_getElem (by omega)⟩
      have HB : Hid (Blk wr w.heap.size 28 hs) := hB
      have HU : Hid (hs[k]? = some u) := hu
      rw [← hm'] at hcx hLr hm hai
      clear hB hh hx hLi hm' hu
      go_wp2_with fail
      refine (clone_any ai m ci (ts.getD k []) wr (by omega) hai hLr).mono ?_
      rintro e w1 ⟨a', rfl, ha0, ha1, hL1, hb1⟩
      have cu : w1.cell? ⟨w.heap.size, k, none⟩ = some u := by rw [(HB.out.below hb1 hG).cell k]; exact HU.out
      have fu := (HB.out.below hb1 hG).free k
      have HS1 : Hid _ := HS.out w1 a' hb1 ha0 ha1 hL1
      clear ha0 ha1 hL1 HS hLr hcx
      go_wp2
      go_roundw
      case rel =>
        obtain ⟨hs', r1, r2, r3, r4, _⟩ := HS1.out
        have REL : ∃ (k' : Nat) (hs : List Value), k' ≤ n ∧ Value.int .i64 ((k : Int) + 1) = .int .i64 k' ∧ Blk (w1.setCell ⟨w.heap.size, k, none⟩ (.slice a' m m)) w.heap.size 28 hs ∧ hs.length = n ∧ (∀ j, j < k' → Hdr w.heap.size (w1.setCell ⟨w.heap.size, k, none⟩ (.slice a' m m)) hs ts j) ∧ Below w.heap.size w (w1.setCell ⟨w.heap.size, k, none⟩ (.slice a' m m)) := ⟨k + 1, hs', by omega, by go_num, r1, r2, r3, r4⟩
        first | exact REL | ((repeat apply Exists.intro); exact ⟨REL, rfl⟩)
      case measure => simp [intOf]; omega
    · obtain rfl : k = n := by omega
      have hfin : Terms wr.heap.size wr (some ⟨w.heap.size, 0, none⟩) k ts := by
        refine ⟨HT.out.1, hs, hl ▸ hB.lies, fun i hi => ?_⟩
        obtain ⟨aj, e1, e2, _, e4⟩ := hh i hi
        exact ⟨aj, _, e1, fun h => ⟨e2 h, e2 h⟩, e4⟩
      clear hh
      go_wp2
      go_ret
      exact ⟨rfl, hfin, hb⟩

theorem ct_any (a : Option Addr) (n c : Nat) (ts : List (List Int)) (w : World) (hn : n ≤ 256) (h0 : a = none → n = 0 ∧ c = 0) (ht : ∀ i, (ts.getD i []).length ≤ 256) (hT : Terms w.heap.size w a n ts) :
    Calls Trym.prog 8 #[.slice a n c] w fun e w' => ∃ a', e = .returned (.slice a' n n) ∧ (a' = none → n = 0) ∧ Terms w'.heap.size w' a' n ts ∧ Below w.heap.size w w' := by
  cases a with
  | none =>
    obtain ⟨rfl, rfl⟩ := h0 rfl
    refine (ct_nil w).mono ?_
    rintro e w' ⟨rfl, rfl⟩
    exact ⟨none, rfl, fun _ => rfl, hT, Below.refl _ _⟩
  | some x =>
    refine (ct_some x n c ts w hn ht hT).mono ?_
    rintro e w' ⟨rfl, h1, h2⟩
    exact ⟨_, rfl, (fun h => by cases h), h1, h2⟩
end Go.Proofs.Qxb6609269aMods
