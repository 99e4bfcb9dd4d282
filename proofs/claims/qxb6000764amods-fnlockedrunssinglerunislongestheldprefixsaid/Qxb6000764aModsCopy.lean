/-
  Seat b6000764aM: zzCopy (9) by its contract.
-/
import Derived.Test.Qxb6000764aModsSmall
namespace Go.Proofs.Qxb6000764aMods
open Go.RowKit Go.Maps

theorem copy_nil (w : World) : Calls Trym.prog 9 #[.slice none 0 0] w fun e w' => e = .returned (.slice none 0 0) ∧ w' = w := by
  have hq := fun w => Lib.run_eql_slice_nil (P := Trym.prog) w 22 2 none 0 0 0 0 Trym.underlying22
  go_enter Trym.func9, Trym.ntmps9
  go_wp2
  go_ret
  exact ⟨rfl, rfl⟩

theorem row_step {w wr : World} {n k B : Nat} {zs : List Int} {xs : List Value} (hk : k < n)
    (hown : wr.ownsRow B 2 1 (.slice (some ⟨B, 0, none⟩) n n) n xs) (hxs : ∀ j, j < k → xs[j]? = some (.int .i64 (zs.getD j 0))) (hb : Below B w wr) :
    ∃ xs', (wr.setCell ⟨B, k, none⟩ (.int .i64 (zs.getD k 0))).ownsRow B 2 1 (.slice (some ⟨B, 0, none⟩) n n) n xs' ∧ (∀ j, j < k + 1 → xs'[j]? = some (.int .i64 (zs.getD j 0))) ∧ Below B w (wr.setCell ⟨B, k, none⟩ (.int .i64 (zs.getD k 0))) := by
  refine ⟨_, (hown.stored k _).1, fun j hj => ?_, hb.setCell (Nat.le_refl _) _⟩
  have hl : xs.length = n := by simpa using hown.1
  rw [List.getElem?_set]
  by_cases e : k = j
  · subst e; rw [if_pos rfl, if_pos (by omega)]
  · rw [if_neg e]; exact hxs j (by omega)

set_option maxRecDepth 100000 in
theorem copy_some (x : Addr) (n c : Nat) (zs : List Int) (w : World) (hn : n ≤ 1048576) (hz : Lies w (some x) n zs) :
    Calls Trym.prog 9 #[.slice (some x) n c] w fun e w' => ∃ xs, e = .returned (.slice (some ⟨w.heap.size, 0, none⟩) n n) ∧ w'.ownsRow w.heap.size 2 1 (.slice (some ⟨w.heap.size, 0, none⟩) n n) n xs ∧ (∀ j, j < n → xs[j]? = some (.int .i64 (zs.getD j 0))) ∧ Below w.heap.size w w' := by
  obtain ⟨hlen, _, hpos⟩ := hz
  have hq := fun w => Lib.run_eql_slice_nil (P := Trym.prog) w 22 2 (some x) n c 0 0 Trym.underlying22
  obtain ⟨i0, hi, hz0, hz1, hz2⟩ := info_parts Trym.info2
  go_enter Trym.func9, Trym.ntmps9
  go_wp2_with (first
    | (at_make; refine wpList_make_full _ rfl _ _ 22 rfl w.heap.size 2 i0 (.int .i64 0) 1 Trym.underlying22 hi hz0 hz1 .i64 .i64 _ _ n rfl rfl rfl rfl (by rw [hz2]; omega) (by unfold maxLen; omega) (Nat.le_refl _) ?_; intro w1 hown hgrow)
    | go_in)
  go_loopw [4] (fun i wr => ∃ (k : Nat) (xs : List Value), k ≤ n ∧ i = .int .i64 k ∧ wr.ownsRow w.heap.size 2 1 (.slice (some ⟨w.heap.size, 0, none⟩) n n) n xs ∧ (∀ j, j < k → xs[j]? = some (.int .i64 (zs.getD j 0))) ∧ Below w.heap.size w wr)
    (fun i _ => n - (intOf i).toNat)
  case atStart => exact ⟨0, _, Nat.zero_le _, rfl, hown, fun j hj => by omega, (Below.refl _ _).grown hgrow (Nat.le_refl _) (fun j hj => by cases hj)⟩
  case round =>
    obtain ⟨k, xs, hk, rfl, hownr, hxs, hb⟩ := hrel
    by_cases hlt : k < n
    · obtain ⟨b, off, hx, hbw, hc⟩ := hpos (by omega)
      obtain rfl : x = ⟨b, off, none⟩ := by simpa using hx
      have hcx : wr.cell? ⟨b, off + k, none⟩ = some (.int .i64 (zs.getD k 0)) := (hb.cell (p := ⟨b, off + k, none⟩) hbw).trans (hc k hlt)
      have hl : xs.length = n := by simpa using hownr.1
      obtain ⟨u, hu⟩ : ∃ u, wr.cell? ⟨w.heap.size, k, none⟩ = some u := ⟨xs[k]'(by omega), by rw [hownr.cellAt k (by omega)]; exact List.getElem?_eq_getElem (by omega)⟩
      have hf := hownr.frozenAt k
      have HR : Hid _ := row_step hlt hownr hxs hb
      obtain ⟨y, hy⟩ : ∃ y, y = zs.getD k 0 := ⟨_, rfl⟩
      rw [← hy] at hcx HR
      clear hown hgrow hownr hxs hpos hc hx hq hy
      go_wp2
      go_roundw
      case rel =>
        obtain ⟨xs', r1, r2, r3⟩ := HR.out
        exact ⟨k + 1, xs', by omega, by go_num, r1, r2, r3⟩
      case measure => simp [intOf]; omega
    · obtain rfl : k = n := by omega
      go_wp2
      go_ret
      exact ⟨xs, rfl, hownr, hxs, hb⟩

theorem copy_any (a : Option Addr) (n c : Nat) (zs : List Int) (w : World) (hn : n ≤ 1048576) (h0 : a = none → n = 0 ∧ c = 0) (hz : Lies w a n zs) :
    Calls Trym.prog 9 #[.slice a n c] w fun e w' => ∃ a', e = .returned (.slice a' n n) ∧ Lies w' a' n zs ∧ Below w.heap.size w w' := by
  obtain ⟨hlen, hwf, _⟩ := id hz
  cases a with
  | none =>
    obtain ⟨rfl, rfl⟩ := h0 rfl
    refine (copy_nil w).mono ?_
    rintro e w' ⟨rfl, rfl⟩
    exact ⟨none, rfl, ⟨hlen, hwf, fun h => by omega⟩, Below.refl _ _⟩
  | some x =>
    refine (copy_some x n c zs w hn hz).mono ?_
    rintro e w' ⟨xs, rfl, hown, hxs, hb⟩
    refine ⟨_, rfl, ⟨hlen, hwf, fun h => ⟨w.heap.size, 0, rfl, (hown.lt w.heap.size rfl).2, fun j hj => ?_⟩⟩, hb⟩
    rw [Nat.zero_add, hown.cellAt j (by omega)]
    exact hxs j hj
end Go.Proofs.Qxb6000764aMods
