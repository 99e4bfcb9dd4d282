/-
  Seat b6003647aM: p256Digits (13) and its shim (7), by their contract.
-/
import Derived.Test.Qxb6003647aModsParts
namespace Go.Proofs.Qxb6003647aMods
open Go.RowKit

/-- what has been written after k rounds -/
def dgTo (zs : List Int) (k j : Nat) : Int := if j < k then Pl.dg (lb zs) j else 0

theorem dgTo_other (zs : List Int) (k j : Nat) (h : j ≠ k) : dgTo zs (k + 1) j = dgTo zs k j := by
  simp only [dgTo]
  by_cases e : j < k
  · rw [if_pos e, if_pos (by omega)]
  · rw [if_neg e, if_neg (by omega)]

set_option maxHeartbeats 1600000 in
set_option maxRecDepth 100000 in
theorem digits_any (b off n c : Nat) (zs : List Int) (w : World) (hn : 32 ≤ n) (hn2 : n ≤ 1048576) (hbw : b < w.heap.size)
    (hc : ∀ j, j < n → w.cell? ⟨b, off + j, none⟩ = some (.int .u8 (zs.getD j 0))) (hz : Bytes zs) :
    Calls Trym.prog 13 #[.slice (some ⟨b, off, none⟩) n c] w fun e w' => ∃ cs : Array Value, e = .returned (.agg cs) ∧ cs.size = 43 ∧ (∀ j, j < 43 → cs[j]? = some (.int .i64 (Pl.dg (lb zs) j))) ∧ Below w.heap.size w w' := by
  have HC : Hid (∀ j, j < n → w.cell? ⟨b, off + j, none⟩ = some (.int .u8 (zs.getD j 0))) := hc
  have HZ : Hid (Bytes zs) := hz
  clear hc hz
  go_enter Trym.func13, Trym.ntmps13
  go_wp2
  go_loopw [4, 9] (fun cr i wr => ∃ k : Nat, k ≤ 43 ∧ i = .int .i64 k ∧ cr = .int .i64 (Pl.cr (lb zs) k) ∧ Arr wr (w.heap.size + 1) 24 43 (dgTo zs k) ∧ Arr wr w.heap.size 24 43 (fun _ => 0) ∧ Below w.heap.size w wr)
    (fun _ i _ => 43 - (intOf i).toNat)
  case atStart =>
    refine ⟨0, by omega, rfl, rfl, ?_, ?_, ((Below.refl _ _).alloc (Nat.le_refl _) _).alloc (by simp) _⟩
    · exact (Arr.zero2 w _ 24 43).congr (fun j _ => by simp [dgTo])
    · exact (Arr.zero w 24 43).alloc _
  case round =>
    obtain ⟨k, hk, rfl, rfl, hd, hr, hb⟩ := hrel
    by_cases hlt : k < 43
    · go_wp2
      go_loopw [6, 13] (fun d i wr2 => ∃ t : Nat, t ≤ 6 ∧ i = .int .i64 t ∧ d = .int .i64 (Pl.cr (lb zs) k + Pl.win (lb zs) k t) ∧ wr2 = wr) (fun _ i _ => 6 - (intOf i).toNat)
      case atStart => exact ⟨0, by omega, rfl, by simp [Pl.win], rfl⟩
      case round =>
        obtain ⟨t, ht, rfl, rfl, rfl⟩ := hrel
        by_cases hlt2 : t < 6
        · by_cases hbit : k * 6 + t < 256
          · have hcz : wr.cell? ⟨b, off + (31 - (k * 6 + t) / 8), none⟩ = some (.int .u8 (lb zs ((k * 6 + t) / 8))) := (hb.cell (p := ⟨b, off + (31 - (k * 6 + t) / 8), none⟩) hbw).trans (HC.out _ (by omega))
            have HS : Hid _ := bit_step zs HZ.out k t hlt2 hbit
            have hv := lb_bd HZ.out ((k * 6 + t) / 8)
            have hs := sum_bd zs k t ht
            obtain ⟨v, hv'⟩ : ∃ v, v = lb zs ((k * 6 + t) / 8) := ⟨_, rfl⟩
            rw [← hv'] at hcz hv HS
            obtain ⟨y, hy⟩ : ∃ y, y = Pl.cr (lb zs) k + Pl.win (lb zs) k t := ⟨_, rfl⟩
            rw [← hy] at hs HS ⊢
            obtain ⟨hv0, hv1⟩ := hv
            obtain ⟨hs0, hs1⟩ := hs
            clear hv' hy
            go_wp2
            go_roundw
            case rel => exact ⟨t + 1, by omega, by go_num, by rw [HS.out], by first | rfl | trivial⟩
            case measure => simp [intOf]; omega
          · have HS : Hid _ := lb_skip zs k t hbit
            go_wp2
            go_roundw
            case rel => exact ⟨t + 1, by omega, by go_num, by rw [HS.out], by first | rfl | trivial⟩
            case measure => simp [intOf]; omega
        · obtain rfl : t = 6 := by omega
          have hs := sum_bd zs k 6 (by omega)
          have hc0 := hd.cell hlt
          have hf0 := hd.free k
          have HD : Hid (∀ x, Pl.dg (lb zs) k = x → Arr (wr.setCell ⟨w.heap.size + 1, k, none⟩ (.int .i64 x)) (w.heap.size + 1) 24 43 (dgTo zs (k + 1)) ∧ Arr (wr.setCell ⟨w.heap.size + 1, k, none⟩ (.int .i64 x)) w.heap.size 24 43 (fun _ => 0) ∧ Below w.heap.size w (wr.setCell ⟨w.heap.size + 1, k, none⟩ (.int .i64 x))) :=
            fun x hx => ⟨hd.set k x (by simp [dgTo, hx]) (dgTo_other zs k), hr.other (by simp) _, hb.setCell (by simp) _⟩
          have HG : Hid (Pl.dg (lb zs) k = if 32 < Pl.cr (lb zs) k + Pl.win (lb zs) k 6 then Pl.cr (lb zs) k + Pl.win (lb zs) k 6 - 64 else Pl.cr (lb zs) k + Pl.win (lb zs) k 6) := rfl
          have HK : Hid (Pl.cr (lb zs) (k + 1) = if 32 < Pl.cr (lb zs) k + Pl.win (lb zs) k 6 then 1 else 0) := rfl
          obtain ⟨y, hy⟩ : ∃ y, y = Pl.cr (lb zs) k + Pl.win (lb zs) k 6 := ⟨_, rfl⟩
          rw [← hy] at hs HG HK ⊢
          obtain ⟨hs0, hs1⟩ := hs
          clear hy hd hr
          by_cases h32 : 32 < y
          · go_wp2
            go_roundw
            case rel =>
              have h1 := HG.out
              have h2 := HK.out
              rw [if_pos h32] at h1 h2
              have h3 := HD.out _ h1
              exact ⟨k + 1, by omega, by go_num, by rw [h2], h3.1, h3.2.1, h3.2.2⟩
            case measure => simp [intOf]; omega
          · go_wp2
            go_roundw
            case rel =>
              have h1 := HG.out
              have h2 := HK.out
              rw [if_neg h32] at h1 h2
              have h3 := HD.out _ h1
              exact ⟨k + 1, by omega, by go_num, by rw [h2], h3.1, h3.2.1, h3.2.2⟩
            case measure => simp [intOf]; omega
    · obtain rfl : k = 43 := by omega
      obtain ⟨cs, hcs, hsz, hval⟩ := hd
      obtain ⟨os, hos, hosz, _⟩ := hr
      have hone := Arr.oneCell hsz hval
      go_wp2_with (first
        | (refine wpList_load_row rfl 24 _ rfl (w.heap.size + 1) rfl 24 cs (0, 0) _ hcs Trym.underlying24 rfl (by rw [hsz]; exact size24) ?_)
        | (refine wpList_store_row rfl 24 _ _ rfl w.heap.size cs rfl rfl 24 os hos (by rw [hsz]; exact size24) (by omega) hone ?_))
      exact bodyPost_ret (v := .agg cs) (results_cell_row Trym.results13 _ _ w.heap.size 24 cs (0, 0) _ rfl (setRow_heap _ _ _ _ _ _ hos) Trym.underlying24 rfl (by rw [hsz]; exact size24)) rfl
        ⟨cs, rfl, hsz, fun j hj => by rw [hval j hj, dgTo, if_pos hj], below_row hb (Nat.le_refl _) cs⟩
end Go.Proofs.Qxb6003647aMods
