/-
  Seat b6003647aM: the shim ZZp256Digits (7), zzBytes (6), by their contracts.
-/
import Derived.Test.Qxb6003647aModsDigits
namespace Go.Proofs.Qxb6003647aMods
open Go.RowKit

set_option maxHeartbeats 800000 in
set_option maxRecDepth 100000 in
theorem shim_any (b off n c : Nat) (zs : List Int) (w : World) (hn : 32 ≤ n) (hn2 : n ≤ 1048576) (hbw : b < w.heap.size)
    (hc : ∀ j, j < n → w.cell? ⟨b, off + j, none⟩ = some (.int .u8 (zs.getD j 0))) (hz : Bytes zs) :
    Calls Trym.prog 7 #[.slice (some ⟨b, off, none⟩) n c] w fun e w' => ∃ cs : Array Value, e = .returned (.agg cs) ∧ cs.size = 43 ∧ (∀ j, j < 43 → cs[j]? = some (.int .i64 (Pl.dg (lb zs) j))) ∧ Below w.heap.size w w' := by
  have HC : Hid (∀ j, j < n → w.cell? ⟨b, off + j, none⟩ = some (.int .u8 (zs.getD j 0))) := hc
  have HZ : Hid (Bytes zs) := hz
  clear hc hz
  go_enter Trym.func7, Trym.ntmps7
  go_wp2_with fail
  refine (digits_any b off n c zs _ hn hn2 (by simp; omega) (fun j hj => (World.cell?_alloc_past _ _ _ hbw).trans (HC.out j hj)) HZ.out).mono ?_
  rintro e w1 ⟨cs, rfl, hsz, hval, hb⟩
  have hr : Arr w1 w.heap.size 24 43 (fun _ => 0) := (Arr.zero w 24 43).below hb (by simp)
  have hbel : Below w.heap.size w w1 := ((Below.refl _ _).alloc (Nat.le_refl _) _).trans (hb.mono (by simp))
  obtain ⟨os, hos, hosz, _⟩ := hr
  have hone := Arr.oneCell hsz hval
  clear hb
  go_wp2_with (refine wpList_store_row rfl 24 _ _ rfl w.heap.size cs rfl rfl 24 os hos (by rw [hsz]; exact size24) (by omega) hone ?_)
  exact bodyPost_ret (v := .agg cs) (results_cell_row Trym.results7 _ _ w.heap.size 24 cs (0, 0) _ rfl (setRow_heap _ _ _ _ _ _ hos) Trym.underlying24 rfl (by rw [hsz]; exact size24)) rfl
    ⟨cs, rfl, hsz, hval, below_row hbel (Nat.le_refl _) cs⟩

def fitB (n : Nat) : Bool := decide (n ≤ 1048576)
theorem bytes_any (a0 : Option Addr) (n c0 : Nat) (w : World) (hn : n ≤ maxLen) :
    Calls Trym.prog 6 #[.slice a0 n c0] w fun e w' => e = .returned (.bool (fitB n)) ∧ w' = w := by
  unfold maxLen at hn
  by_cases h1 : n ≤ 1048576
  · have hf : fitB n = true := by simp [fitB, h1]
    rw [hf]; clear hf
    go_enter Trym.func6, Trym.ntmps6
    go_wp2
    go_ret
    exact ⟨rfl, rfl⟩
  · have hf : fitB n = false := by simp [fitB]; omega
    rw [hf]; clear hf
    go_enter Trym.func6, Trym.ntmps6
    go_wp2
    go_ret
    exact ⟨rfl, rfl⟩
end Go.Proofs.Qxb6003647aMods
