/-
  Seat b6002793aM: the law's own walk (3).
-/
import Derived.Test.Qxb6002793aModsShim
import Derived.Deep.WholeRow
namespace Go.Proofs.Qxb6002793aMods
open Go.RowKit

theorem row_step {w wr : World} {n k B : Nat} {zs : List Int} {xs : List Value} (hk : k < n)
    (hown : wr.ownsRow B 5 1 (.slice (some ⟨B, 0, none⟩) n n) n xs) (hxs : ∀ j, j < k → xs[j]? = some (.int .u8 (zs.getD j 0))) (hb : Below B w wr) :
    ∃ xs', (wr.setCell ⟨B, k, none⟩ (.int .u8 (zs.getD k 0))).ownsRow B 5 1 (.slice (some ⟨B, 0, none⟩) n n) n xs' ∧ (∀ j, j < k + 1 → xs'[j]? = some (.int .u8 (zs.getD j 0))) ∧ Below B w (wr.setCell ⟨B, k, none⟩ (.int .u8 (zs.getD k 0))) := by
  refine ⟨_, (hown.stored k _).1, fun j hj => ?_, hb.setCell (Nat.le_refl _) _⟩
  have hl : xs.length = n := by simpa using hown.1
  rw [List.getElem?_set]
  by_cases e : k = j
  · subst e; rw [if_pos rfl, if_pos (by omega)]
  · rw [if_neg e]; exact hxs j (by omega)

/-- the accumulator while the carries run -/
def mid (zs : List Int) (k m : Nat) : Int := if m < k then Pl.tg (lb zs) m else Pl.ac (lb zs) 43 m
theorem mid_other (zs : List Int) (k j : Nat) (h : j ≠ k) : mid zs (k + 1) j = mid zs k j := by
  simp only [mid]
  by_cases e : j < k
  · rw [if_pos e, if_pos (by omega)]
  · rw [if_neg e, if_neg (by omega)]

theorem acc_val (zs : List Int) (k : Nat) (hk : k < 43) : wrap64 (Pl.ac (lb zs) k (6 * k / 8) + wrap64 (Pl.dg (lb zs) k * 2 ^ (6 * k % 8))) = Pl.ac (lb zs) (k + 1) (6 * k / 8) := by
  have h1 := Pl.ac_bd (lb zs) k (6 * k / 8)
  have h2 := Pl.dg_bd (lb zs) k
  have h3 := Pl.shift_bd (Pl.dg (lb zs) k) (6 * k % 8) (by omega) h2.1 h2.2
  rw [wrap_id (Pl.dg (lb zs) k * 2 ^ (6 * k % 8)) (by omega) (by omega), wrap_id _ (by omega) (by omega)]
  simp [Pl.ac]
theorem acc_other (zs : List Int) (k j : Nat) (h : j ≠ 6 * k / 8) : Pl.ac (lb zs) (k + 1) j = Pl.ac (lb zs) k j := by
  simp [Pl.ac, h]

set_option maxHeartbeats 3200000 in
set_option maxRecDepth 100000 in
theorem top_main (b off n c : Nat) (zs : List Int) (w : World) (hn : 32 ≤ n) (hn2 : n ≤ 1048576) (hbw : b < w.heap.size)
    (hc : ∀ j, j < n → w.cell? ⟨b, off + j, none⟩ = some (.int .u8 (zs.getD j 0))) (hz : Bytes zs) :
    Calls Trym.prog 3 #[.slice (some ⟨b, off, none⟩) n c] w fun e w' => e = .returned (.bool true) ∧ Below w.heap.size w w' := by
  have HC : Hid (∀ j, j < n → w.cell? ⟨b, off + j, none⟩ = some (.int .u8 (zs.getD j 0))) := hc
  have HZ : Hid (Bytes zs) := hz
  have HF : Hid (fitB n = true) := by show fitB n = true; simp [fitB, hn2]
  obtain ⟨i0, hi, hz0, hz1, hz2⟩ := info_parts Trym.info5
  clear hc hz
  go_enter Trym.func3, Trym.ntmps3
  go_wp2_with fail
  refine (bytes_any (some ⟨b, off, none⟩) n c w (by unfold maxLen; omega)).mono ?_
  rw [HF.out]
  rintro e w' ⟨rfl, rfl⟩
  go_wp2_with (first
    | (at_make; refine wpList_make_full _ rfl _ _ 22 rfl w'.heap.size 5 i0 (.int .u8 0) 1 Trym.underlying22 hi hz0 hz1 .i64 .i64 _ _ n rfl rfl rfl rfl (by rw [hz2]; omega) (by unfold maxLen; omega) (Nat.le_refl _) ?_; intro w1 hown hgrow)
    | fail)
  go_loopw [4] (fun i wr => ∃ (k : Nat) (xs : List Value), k ≤ n ∧ i = .int .i64 k ∧ wr.ownsRow w'.heap.size 5 1 (.slice (some ⟨w'.heap.size, 0, none⟩) n n) n xs ∧ (∀ j, j < k → xs[j]? = some (.int .u8 (zs.getD j 0))) ∧ Below w'.heap.size w' wr)
    (fun i _ => n - (intOf i).toNat)
  case atStart => exact ⟨0, _, Nat.zero_le _, rfl, hown, fun j hj => by omega, (Below.refl _ _).grown hgrow (Nat.le_refl _) (fun j hj => by cases hj)⟩
  case round =>
    obtain ⟨k, xs, hk, rfl, hownr, hxs, hb⟩ := hrel
    by_cases hlt : k < n
    · have hcx : wr.cell? ⟨b, off + k, none⟩ = some (.int .u8 (zs.getD k 0)) := (hb.cell (p := ⟨b, off + k, none⟩) hbw).trans (HC.out k hlt)
      have hl : xs.length = n := by simpa using hownr.1
      obtain ⟨u, hu⟩ : ∃ u, wr.cell? ⟨w'.heap.size, k, none⟩ = some u := ⟨xs[k]'(by omega), by rw [hownr.cellAt k (by omega)]; exact List.getElem?_eq_getElem (by omega)⟩
      have hf := hownr.frozenAt k
      have HR : Hid _ := row_step hlt hownr hxs hb
      obtain ⟨y, hy⟩ : ∃ y, y = zs.getD k 0 := ⟨_, rfl⟩
      rw [← hy] at hcx HR
      clear hown hgrow hownr hxs hy
      go_wp2
      go_roundw
      case rel =>
        obtain ⟨xs', r1, r2, r3⟩ := HR.out
        exact ⟨k + 1, xs', by omega, by go_num, r1, r2, r3⟩
      case measure => simp [intOf]; omega
    · obtain rfl : k = n := by omega
      have hcn : ∀ j, j < k → wr.cell? ⟨w'.heap.size, 0 + j, none⟩ = some (.int .u8 (zs.getD j 0)) := fun j hj => by rw [Nat.zero_add, hownr.cellAt j (by omega)]; exact hxs j hj
      have hlt' : w'.heap.size < wr.heap.size := (hownr.lt w'.heap.size rfl).2
      clear hown hgrow hownr hxs
      have HCN : Hid _ := hcn
      clear hcn
      go_wp2_with fail
      refine (shim_any w'.heap.size 0 k k zs wr hn hn2 hlt' HCN.out HZ.out).mono ?_
      rintro e w3 ⟨cs, rfl, hsz, hval, hb3⟩
      have hone := Arr.oneCell hsz hval
      have HV : Hid (∀ j, j < 43 → cs[j]? = some (.int .i64 (Pl.dg (lb zs) j))) := hval
      have hcn3 : ∀ j, j < k → w3.cell? ⟨w'.heap.size, j, none⟩ = some (.int .u8 (zs.getD j 0)) := fun j hj => by have := HCN.out j hj; rw [Nat.zero_add] at this; exact (hb3.cell (p := ⟨w'.heap.size, j, none⟩) hlt').trans this
      have HCN3 : Hid _ := hcn3
      have hb03 : Below w'.heap.size w' w3 := hb.trans (hb3.mono hb.size)
      have hw3 : w'.heap.size < w3.heap.size := Nat.lt_of_lt_of_le hlt' hb3.size
      clear hval hcn3 HCN hb hb3 hlt'
      go_wp2_with (refine wpList_store_row rfl 24 _ _ rfl w3.heap.size cs rfl rfl 24 _ (heap_alloc_new w3 _) (by rw [hsz]; exact size24) (by rw [hsz]; rfl) hone ?_; rw [World.setRow_alloc_new])
      go_loopw [7] (fun i wr => ∃ q : Nat, q ≤ 43 ∧ i = .int .i64 q ∧ Arr wr w3.heap.size 24 43 (Pl.dg (lb zs)) ∧ Arr wr (w3.heap.size + 1) 26 36 (Pl.ac (lb zs) q) ∧ Below w3.heap.size w3 wr)
        (fun i _ => 43 - (intOf i).toNat)
      case atStart => exact ⟨0, by omega, rfl, (Arr.new w3 24 43 cs _ hsz HV.out).alloc _, Arr.zero2 w3 _ 26 36, ((Below.refl _ _).alloc (Nat.le_refl _) _).alloc (by simp) _⟩
      case round =>
        obtain ⟨q, hq, rfl, hdg, hac, hb⟩ := hrel
        by_cases hlt : q < 43
        · have cd := hdg.cell hlt
          have ca := hac.cell (j := 6 * q / 8) (by omega)
          have fa := hac.free (6 * q / 8)
          have HA : Hid _ := hac.set (f' := Pl.ac (lb zs) (q + 1)) (6 * q / 8) _ (acc_val zs q hlt).symm (acc_other zs q)
          have HD : Hid (∀ v, Arr (wr.setCell ⟨w3.heap.size + 1, 6 * q / 8, none⟩ v) w3.heap.size 24 43 (Pl.dg (lb zs)) ∧ Below w3.heap.size w3 (wr.setCell ⟨w3.heap.size + 1, 6 * q / 8, none⟩ v)) := fun v => ⟨hdg.other (by simp) v, hb.setCell (by simp) v⟩
          have h1 := Pl.dg_bd (lb zs) q
          have h2 := Pl.ac_bd (lb zs) q (6 * q / 8)
          obtain ⟨d, hd⟩ : ∃ d, d = Pl.dg (lb zs) q := ⟨_, rfl⟩
          obtain ⟨x, hx⟩ : ∃ x, x = Pl.ac (lb zs) q (6 * q / 8) := ⟨_, rfl⟩
          rw [← hd] at cd HA h1
          rw [← hx] at ca HA h2
          obtain ⟨h10, h11⟩ := h1
          obtain ⟨h20, h21⟩ := h2
          clear hdg hac hd hx
          go_wp2
          go_region
          go_wp2
          go_roundw
          case rel => exact ⟨q + 1, by omega, by go_num, (HD.out _).1, HA.out, (HD.out _).2.drew⟩
          case measure => simp [intOf]; omega
        · obtain rfl : q = 43 := by omega
          clear hdg
          go_wp2
          obtain ⟨wa, hwa⟩ : ∃ wa : World, wa = wr := ⟨_, rfl⟩
          subst hwa
          go_loopw [10, 11] (fun y i wr => ∃ t : Nat, t ≤ 36 ∧ i = .int .i64 t ∧ y = .int .i64 (Pl.cy (Pl.ac (lb zs) 43) t) ∧ Arr wr (w3.heap.size + 1) 26 36 (mid zs t) ∧ Below w3.heap.size w3 wr)
            (fun _ i _ => 36 - (intOf i).toNat)
          case atStart => exact ⟨0, by omega, rfl, rfl, hac.congr (fun j _ => by simp [mid]), hb⟩
          case round =>
            clear hac hb
            obtain ⟨t, ht, rfl, rfl, hac, hb⟩ := hrel
            by_cases hlt2 : t < 36
            · have ca := hac.cell hlt2
              have fa := hac.free t
              have hcy := Pl.cy_bd (Pl.ac (lb zs) 43) (Pl.check_bd (lb zs)) t
              have hbd := Pl.check_bd (lb zs) t
              have HM : Hid (mid zs t t = Pl.ac (lb zs) 43 t) := by show _ = _; simp [mid]
              rw [HM.out] at ca
              have HDg := Pl.check_digit (lb zs) (lb_bd HZ.out) t hlt2
              have HCy : Hid (Pl.cy (Pl.ac (lb zs) 43) (t + 1) = (Pl.ac (lb zs) 43 t + Pl.cy (Pl.ac (lb zs) 43) t) / 256) := rfl
              have HA : Hid (∀ v, v = Pl.tg (lb zs) t → Arr (wr.setCell ⟨w3.heap.size + 1, t, none⟩ (.int .i64 v)) (w3.heap.size + 1) 26 36 (mid zs (t + 1)) ∧ Below w3.heap.size w3 (wr.setCell ⟨w3.heap.size + 1, t, none⟩ (.int .i64 v))) :=
                fun v hv => ⟨hac.set t v (by simp [mid, hv]) (mid_other zs t), hb.setCell (by simp) _⟩
              obtain ⟨x, hx⟩ : ∃ x, x = Pl.ac (lb zs) 43 t := ⟨_, rfl⟩
              obtain ⟨y, hy⟩ : ∃ y, y = Pl.cy (Pl.ac (lb zs) 43) t := ⟨_, rfl⟩
              rw [← hx] at ca hbd HDg HCy
              rw [← hy] at hcy HDg HCy ⊢
              have HDg' : Hid _ := HDg
              obtain ⟨hcy0, hcy1⟩ := hcy
              obtain ⟨hbd0, hbd1⟩ := hbd
              clear hac HDg hx hy HM
              go_wp2
              go_roundw
              case rel =>
                have e1 : bits BinOp.and IntKind.i64 (x + y) 255 = Pl.tg (lb zs) t := by rw [i64_and255]; exact HDg'.out
                have r := HA.out _ e1
                exact ⟨t + 1, by omega, by go_num, by rw [HCy.out], r.1, r.2⟩
              case measure => simp [intOf]; omega
            · obtain rfl : t = 36 := by omega
              have HE : Pl.cy (Pl.ac (lb zs) 43) 36 = 0 := Pl.check_end (lb zs) (lb_bd HZ.out)
              rw [HE]
              clear HE
              have HT : Hid (∀ j, j < 36 → wr.cell? ⟨w3.heap.size + 1, j, none⟩ = some (.int .i64 (Pl.tg (lb zs) j))) := fun j hj => by
                rw [hac.cell hj]; simp [mid, hj]
              have hfin : Below w'.heap.size w' wr := hb03.trans (hb.mono hb03.size)
              have hsz3 : w3.heap.size + 1 < wr.heap.size := hac.lt
              clear hac
              go_wp2
              go_loop [13] (fun i => ∃ t : Nat, 32 ≤ t ∧ t ≤ 36 ∧ i = .int .i64 t) (fun i => 36 - (intOf i).toNat)
              case atStart => exact ⟨32, by omega, by omega, rfl⟩
              case round =>
                obtain ⟨t, ht0, ht, rfl⟩ := hrel
                by_cases hlt3 : t < 36
                · have ca := HT.out t hlt3
                  have e0 : Pl.tg (lb zs) t = 0 := by unfold Pl.tg; rw [if_neg (by omega)]
                  rw [e0] at ca
                  clear e0
                  go_wp2
                  go_round
                  case rel => exact ⟨t + 1, by omega, by omega, by go_num⟩
                  case measure => simp [intOf]; omega
                · go_wp2
                  obtain ⟨wc, hwc⟩ : ∃ wc : World, wc = wr := ⟨_, rfl⟩
                  subst hwc
                  go_loopw [14] (fun i wr => ∃ t : Nat, t ≤ 32 ∧ i = .int .i64 t ∧ Below wc.heap.size wc wr) (fun i _ => 32 - (intOf i).toNat)
                  case atStart => exact ⟨0, by omega, rfl, Below.refl _ _⟩
                  case round =>
                    obtain ⟨m, hm, rfl, hbm⟩ := hrel
                    by_cases hlt4 : m < 32
                    · have ca : wr.cell? ⟨w3.heap.size + 1, m, none⟩ = some (.int .i64 (lb zs m)) := by
                        rw [hbm.cell (p := ⟨w3.heap.size + 1, m, none⟩) hsz3, HT.out m (by omega), Pl.tg, if_pos hlt4]
                      have cz : wr.cell? ⟨w'.heap.size, 31 - m, none⟩ = some (.int .u8 (lb zs m)) := by
                        rw [hbm.cell (p := ⟨w'.heap.size, 31 - m, none⟩) (by show w'.heap.size < wc.heap.size; omega), hb.cell (p := ⟨w'.heap.size, 31 - m, none⟩) hw3, HCN3.out _ (by omega)]; rfl
                      have hv := lb_bd HZ.out m
                      obtain ⟨v, hv'⟩ : ∃ v, v = lb zs m := ⟨_, rfl⟩
                      rw [← hv'] at ca cz hv
                      obtain ⟨hv0, hv1⟩ := hv
                      have i1 : (m : Int) < 36 := by omega
                      have i2 : (31 : Int) - (m : Int) < (k : Int) := by omega
                      clear hv'
                      go_wp2
                      go_quiet (fail)
                      go_wp2
                      go_roundw
                      case rel => exact ⟨m + 1, by omega, by go_num, below_drewN hbm nq⟩
                      case measure => simp [intOf]; omega
                    · go_wp2
                      go_ret
                      exact ⟨rfl, hfin.trans (hbm.mono (by omega))⟩

theorem top_any (a : Option Addr) (n c : Nat) (zs : List Int) (w : World) (hn : n ≤ maxLen) (hz : Bytes zs)
    (hp : 0 < n → ∃ b off, a = some ⟨b, off, none⟩ ∧ b < w.heap.size ∧ ∀ j, j < n → w.cell? ⟨b, off + j, none⟩ = some (.int .u8 (zs.getD j 0))) :
    Calls Trym.prog 3 #[.slice a n c] w fun e w' => e = .returned (.bool true) ∧ Below w.heap.size w w' := by
  by_cases h1 : n ≤ 1048576
  · by_cases h2 : 32 ≤ n
    · obtain ⟨b, off, rfl, hb, hc⟩ := hp (by omega)
      exact top_main b off n c zs w h2 h1 hb hc hz
    · have HF : Hid (fitB n = true) := by show fitB n = true; simp [fitB, h1]
      have HN : Hid (n ≤ maxLen) := hn
      clear hn hp hz
      go_enter Trym.func3, Trym.ntmps3
      go_wp2_with fail
      refine (bytes_any a n c w HN.out).mono ?_
      rw [HF.out]
      rintro e w' ⟨rfl, rfl⟩
      go_wp2
      go_ret
      exact ⟨rfl, Below.refl _ _⟩
  · have HF : Hid (fitB n = false) := by show fitB n = false; simp [fitB]; omega
    have HN : Hid (n ≤ maxLen) := hn
    clear hn hp hz
    go_enter Trym.func3, Trym.ntmps3
    go_wp2_with fail
    refine (bytes_any a n c w HN.out).mono ?_
    rw [HF.out]
    rintro e w' ⟨rfl, rfl⟩
    go_wp2
    go_ret
    exact ⟨rfl, Below.refl _ _⟩
end Go.Proofs.Qxb6002793aMods
