/-
  Seat b6003647aM: the law's own walk (3).
-/
import Derived.Test.Qxb6003647aModsAdd
import Derived.Deep.WholeRow
namespace Go.Proofs.Qxb6003647aMods
open Go.RowKit

theorem row_step {w wr : World} {n k B : Nat} {zs : List Int} {xs : List Value} (hk : k < n)
    (hown : wr.ownsRow B 5 1 (.slice (some ⟨B, 0, none⟩) n n) n xs) (hxs : ∀ j, j < k → xs[j]? = some (.int .u8 (zs.getD j 0))) (hb : Below B w wr) :
    ∃ xs', (wr.setCell ⟨B, k, none⟩ (.int .u8 (zs.getD k 0))).ownsRow B 5 1 (.slice (some ⟨B, 0, none⟩) n n) n xs' ∧ (∀ j, j < k + 1 → xs'[j]? = some (.int .u8 (zs.getD j 0))) ∧ Below B w (wr.setCell ⟨B, k, none⟩ (.int .u8 (zs.getD k 0))) := by
  refine ⟨_, (hown.stored k _).1, fun j hj => ?_, hb.setCell (Nat.le_refl _) _⟩
  have hl : xs.length = n := by simpa using hown.1
  rw [List.getElem?_set]
  by_cases e : k = j
  · subst e; rw [if_pos rfl, if_pos (by omega)]
  · rw [if_neg e]; exact hxs j (by omega)

theorem add_int (g : Nat) (f : Nat → Int) (v si : Int) (s : Nat) (w : World) (hsi : si = (s : Int)) (hv0 : 0 ≤ v) (hv1 : v ≤ 255) (hs : s ≤ 252) (hA : Arr w g 26 40 f) (hL : Pl.Lim f) (hT : Pl.wt f + v * 2 ^ s < 256 ^ 40) :
    Calls Trym.prog 8 #[.pointer (some ⟨g, 0, none⟩), .int .i64 v, .int .i64 si] w fun e w' => e = .returned (.tuple #[]) ∧ ∃ f', Arr w' g 26 40 f' ∧ Pl.Lim f' ∧ Pl.wt f' = Pl.wt f + v * 2 ^ s ∧ w.grownBy w' (some g) := by
  subst hsi
  exact add_any g f v s w hv0 hv1 hs hA hL hT
theorem Arr.grown {w w' : World} {g g' : Nat} {t : TypeId} {n : Nat} {f : Nat → Int} (h : Arr w g t n f) (hg : w.grownBy w' (some g')) (hne : g ≠ g') : Arr w' g t n f := by
  have hl := h.lt
  obtain ⟨cs, h1, h2, h3⟩ := h
  exact ⟨cs, (hg.block g hl (fun e => hne (Option.some.inj e))).trans h1, h2, h3⟩
theorem zero_lim : Pl.Lim (fun _ => 0) := fun _ => by simp
/-- a number of 40 limbs in block g that weighs x -/
def Num (w : World) (g : Nat) (x : Int) : Prop := ∃ f, Arr w g 26 40 f ∧ Pl.Lim f ∧ Pl.wt f = x
theorem Num.grown {w w' : World} {g g' : Nat} {x : Int} (h : Num w g x) (hg : w.grownBy w' (some g')) (hne : g ≠ g') : Num w' g x := by
  obtain ⟨f, h1, h2, h3⟩ := h
  exact ⟨f, h1.grown hg hne, h2, h3⟩
theorem add_num (g : Nat) (x v si : Int) (s : Nat) (w : World) (hsi : si = (s : Int)) (hv0 : 0 ≤ v) (hv1 : v ≤ 255) (hs : s ≤ 252) (hN : Num w g x) (hT : x + v * 2 ^ s < 256 ^ 40) :
    Calls Trym.prog 8 #[.pointer (some ⟨g, 0, none⟩), .int .i64 v, .int .i64 si] w fun e w' => e = .returned (.tuple #[]) ∧ Num w' g (x + v * 2 ^ s) ∧ w.grownBy w' (some g) := by
  obtain ⟨f, h1, h2, h3⟩ := hN
  refine (add_int g f v si s w hsi hv0 hv1 hs h1 h2 (by rw [h3]; exact hT)).mono ?_
  rintro e w' ⟨rfl, f', r1, r2, r3, r4⟩
  exact ⟨rfl, ⟨f', r1, r2, by rw [r3, h3]⟩, r4⟩

set_option maxHeartbeats 3200000 in
set_option maxRecDepth 100000 in
theorem top_main (b off n c : Nat) (zs : List Int) (w : World) (hn : 32 ≤ n) (hn3 : n ≤ 65536) (hbw : b < w.heap.size)
    (hc : ∀ j, j < n → w.cell? ⟨b, off + j, none⟩ = some (.int .u8 (zs.getD j 0))) (hz : Bytes zs) :
    Calls Trym.prog 3 #[.slice (some ⟨b, off, none⟩) n c] w fun e w' => e = .returned (.bool true) ∧ Below w.heap.size w w' := by
  have HC : Hid (∀ j, j < n → w.cell? ⟨b, off + j, none⟩ = some (.int .u8 (zs.getD j 0))) := hc
  have HZ : Hid (Bytes zs) := hz
  have hn2 : n ≤ 1048576 := by omega
  have HF : Hid (fitB n = true) := by show fitB n = true; simp [fitB, hn2]
  obtain ⟨i0, hi, hz0, hz1, hz2⟩ := info_parts Trym.info5
  clear hc hz
  go_enter Trym.func3, Trym.ntmps3
  go_wp2_with fail
  refine (bytes_any (some ⟨b, off, none⟩) n c w (by unfold maxLen; omega)).mono ?_
  rw [HF.out]
  rintro e w' ⟨rfl, rfl⟩
  go_wp2_with (first
    | (at_make; refine wpList_make_full _ rfl _ _ 22 rfl w'.heap.size 5 i0 (.int .u8 0) 1 Trym.underlying22 hi hz0 hz1 .i64 .i64 _ _ n rfl rfl rfl rfl (by rw [hz2]; omega) (by unfold maxLen; omega) (Nat.le_refl _) ?_; intro w1 hown hgrow)
    | fail)
  go_loopw [4] (fun i wr => ∃ (k : Nat) (xs : List Value), k ≤ n ∧ i = .int .i64 k ∧ wr.ownsRow w'.heap.size 5 1 (.slice (some ⟨w'.heap.size, 0, none⟩) n n) n xs ∧ (∀ j, j < k → xs[j]? = some (.int .u8 (zs.getD j 0))) ∧ Below w'.heap.size w' wr)
    (fun i _ => n - (intOf i).toNat)
  case atStart => exact ⟨0, _, Nat.zero_le _, rfl, hown, fun j hj => by omega, (Below.refl _ _).grown hgrow (Nat.le_refl _) (fun j hj => by cases hj)⟩
  case round =>
    obtain ⟨k, xs, hk, rfl, hownr, hxs, hb⟩ := hrel
    by_cases hlt : k < n
    · have hcx : wr.cell? ⟨b, off + k, none⟩ = some (.int .u8 (zs.getD k 0)) := (hb.cell (p := ⟨b, off + k, none⟩) hbw).trans (HC.out k hlt)
      have hl : xs.length = n := by simpa using hownr.1
      obtain ⟨u, hu⟩ : ∃ u, wr.cell? ⟨w'.heap.size, k, none⟩ = some u := ⟨xs[k]'(by omega), by rw [hownr.cellAt k (by omega)]; exact List.getElem?_eq_getElem (by omega)⟩
      have hf := hownr.frozenAt k
      have HR : Hid _ := row_step hlt hownr hxs hb
      obtain ⟨y, hy⟩ : ∃ y, y = zs.getD k 0 := ⟨_, rfl⟩
      rw [← hy] at hcx HR
      clear hown hgrow hownr hxs hy
      go_wp2
      go_roundw
      case rel =>
        obtain ⟨xs', r1, r2, r3⟩ := HR.out
        exact ⟨k + 1, xs', by omega, by go_num, r1, r2, r3⟩
      case measure => simp [intOf]; omega
    · obtain rfl : k = n := by omega
      have hcn : ∀ j, j < k → wr.cell? ⟨w'.heap.size, 0 + j, none⟩ = some (.int .u8 (zs.getD j 0)) := fun j hj => by rw [Nat.zero_add, hownr.cellAt j (by omega)]; exact hxs j hj
      have hlt' : w'.heap.size < wr.heap.size := (hownr.lt w'.heap.size rfl).2
      clear hown hgrow hownr hxs
      have HCN : Hid _ := hcn
      clear hcn
      go_wp2_with fail
      refine (shim_any w'.heap.size 0 k k zs wr hn hn2 hlt' HCN.out HZ.out).mono ?_
      rintro e w3 ⟨cs, rfl, hsz, hval, hb3⟩
      have hone := Arr.oneCell hsz hval
      have HV : Hid (∀ j, j < 43 → cs[j]? = some (.int .i64 (Pl.dg (lb zs) j))) := hval
      have hcn3 : ∀ j, j < k → w3.cell? ⟨w'.heap.size, j, none⟩ = some (.int .u8 (zs.getD j 0)) := fun j hj => by have := HCN.out j hj; rw [Nat.zero_add] at this; exact (hb3.cell (p := ⟨w'.heap.size, j, none⟩) hlt').trans this
      have HCN3 : Hid _ := hcn3
      have hb03 : Below w'.heap.size w' w3 := hb.trans (hb3.mono hb.size)
      have hw3 : w'.heap.size < w3.heap.size := Nat.lt_of_lt_of_le hlt' hb3.size
      clear hval hcn3 HCN hb hb3 hlt'
      go_wp2_with (refine wpList_store_row rfl 24 _ _ rfl w3.heap.size cs rfl rfl 24 _ (heap_alloc_new w3 _) (by rw [hsz]; exact size24) (by rw [hsz]; rfl) hone ?_; rw [World.setRow_alloc_new])
      have hdg0 : Arr (w3.alloc (.cells cs 24)) w3.heap.size 24 43 (Pl.dg (lb zs)) := Arr.new w3 24 43 cs _ hsz HV.out
      have HD0 : Hid (Arr (w3.alloc (.cells cs 24)) w3.heap.size 24 43 (Pl.dg (lb zs))) := hdg0
      clear hdg0
      go_loop [6] (fun i => ∃ q : Nat, q ≤ 43 ∧ i = .int .i64 q) (fun i => 43 - (intOf i).toNat)
      case atStart => exact ⟨0, by omega, rfl⟩
      case round =>
        obtain ⟨q, hq, rfl⟩ := hrel
        by_cases hlt : q < 43
        · have cd := Arr.cell HD0.out hlt
          have h1 := Pl.dg_bd (lb zs) q
          obtain ⟨d, hd⟩ : ∃ d, d = Pl.dg (lb zs) q := ⟨_, rfl⟩
          rw [← hd] at cd h1
          obtain ⟨h10, h11⟩ := h1
          clear hd
          go_wp2
          go_round
          case rel => exact ⟨q + 1, by omega, by go_num⟩
          case measure => simp [intOf]; omega
        · go_wp2
          have hstart : Num ((((w3.alloc (.cells cs 24)).alloc (.cells (Array.replicate 40 (.int .i64 0)) 26)).alloc (.cells (Array.replicate 40 (.int .i64 0)) 26))) (w3.heap.size + 1) 0 ∧
              Num ((((w3.alloc (.cells cs 24)).alloc (.cells (Array.replicate 40 (.int .i64 0)) 26)).alloc (.cells (Array.replicate 40 (.int .i64 0)) 26))) (w3.heap.size + 1 + 1) 0 := by
            have e : (w3.alloc (.cells cs 24)).heap.size = w3.heap.size + 1 := by simp
            have z2 := Arr.zero2 (w3.alloc (.cells cs 24)) (.cells (Array.replicate 40 (.int .i64 0)) 26) 26 40
            rw [e] at z2
            exact ⟨⟨_, (Arr.zero2 w3 _ 26 40).alloc _, zero_lim, Pl.wt_zero⟩, ⟨_, z2, zero_lim, Pl.wt_zero⟩⟩
          have HST : Hid _ := hstart
          clear hstart
          go_loopw [9] (fun i wr => ∃ q : Nat, q ≤ 43 ∧ i = .int .i64 q ∧ Arr wr w3.heap.size 24 43 (Pl.dg (lb zs)) ∧ Num wr (w3.heap.size + 1) (Pl.ps (lb zs) q) ∧ Num wr (w3.heap.size + 1 + 1) (Pl.ng (lb zs) q) ∧ Below w3.heap.size w3 wr)
            (fun i _ => 43 - (intOf i).toNat)
          case atStart => exact ⟨0, by omega, rfl, (HD0.out.alloc _).alloc _, HST.out.1, HST.out.2, (((Below.refl _ _).alloc (Nat.le_refl _) _).alloc (by simp) _).alloc (by simp; omega) _⟩
          case round =>
            clear HST
            obtain ⟨q, hq, rfl, hdg, hps, hng, hb⟩ := hrel
            by_cases hlt : q < 43
            · have cd := hdg.cell hlt
              have h1 := Pl.dg_bd (lb zs) q
              have HPs : Hid (Pl.ps (lb zs) (q + 1) = Pl.ps (lb zs) q + if 0 < Pl.dg (lb zs) q then Pl.dg (lb zs) q * 2 ^ (6 * q) else 0) := rfl
              have HNg : Hid (Pl.ng (lb zs) (q + 1) = Pl.ng (lb zs) q + if Pl.dg (lb zs) q < 0 then -Pl.dg (lb zs) q * 2 ^ (6 * q) else 0) := rfl
              obtain ⟨d, hd⟩ : ∃ d, d = Pl.dg (lb zs) q := ⟨_, rfl⟩
              rw [← hd] at cd h1 HPs HNg
              obtain ⟨h10, h11⟩ := h1
              clear hd
              by_cases hpos : 0 < d
              · have e1 := HPs.out
                have e2 := HNg.out
                rw [if_pos hpos] at e1
                rw [if_neg (by omega), Int.add_zero] at e2
                have HT : Hid (Pl.ps (lb zs) q + d * 2 ^ (6 * q) < 256 ^ 40) := by
                  show _ < _
                  rw [← e1]; exact Pl.ps_small (lb zs) (q + 1) (by omega)
                have E1 : Hid (Pl.ps (lb zs) (q + 1) = Pl.ps (lb zs) q + d * 2 ^ (6 * q)) := e1
                have E2 : Hid (Pl.ng (lb zs) (q + 1) = Pl.ng (lb zs) q) := e2
                clear e1 e2 HPs HNg
                go_wp2_with fail
                refine (add_num (w3.heap.size + 1) (Pl.ps (lb zs) q) d _ (6 * q) wr (by omega) (by omega) (by omega) (by omega) hps HT.out).mono ?_
                rintro e w4 ⟨rfl, hps4, hg4⟩
                have hdg4 := hdg.grown hg4 (by omega)
                have hng4 := hng.grown hg4 (by omega)
                have hb4 : Below w3.heap.size w3 w4 := hb.grown hg4 hb.size (fun t ht => by cases ht; omega)
                clear hdg hps hng hb hg4 cd
                go_wp2
                go_roundw
                case rel => exact ⟨q + 1, by omega, by go_num, hdg4, by rw [E1.out]; exact hps4, by rw [E2.out]; exact hng4, hb4⟩
                case measure => simp [intOf]; omega
              · by_cases hneg : d < 0
                · have e1 := HPs.out
                  have e2 := HNg.out
                  rw [if_neg hpos, Int.add_zero] at e1
                  rw [if_pos hneg] at e2
                  have HT : Hid (Pl.ng (lb zs) q + -d * 2 ^ (6 * q) < 256 ^ 40) := by
                    show _ < _
                    rw [← e2]
                    have := Pl.ng_small (lb zs) (lb_bd HZ.out) (q + 1) 0 (by omega) (by omega)
                    rw [show Pl.by8 (lb zs) 0 = 0 from rfl, Int.add_zero] at this
                    exact this
                  have E1 : Hid (Pl.ps (lb zs) (q + 1) = Pl.ps (lb zs) q) := e1
                  have E2 : Hid (Pl.ng (lb zs) (q + 1) = Pl.ng (lb zs) q + -d * 2 ^ (6 * q)) := e2
                  clear e1 e2 HPs HNg
                  go_wp2_with fail
                  refine (add_num (w3.heap.size + 1 + 1) (Pl.ng (lb zs) q) (-d) _ (6 * q) wr (by omega) (by omega) (by omega) (by omega) hng HT.out).mono ?_
                  rintro e w4 ⟨rfl, hng4, hg4⟩
                  have hdg4 := hdg.grown hg4 (by omega)
                  have hps4 := hps.grown hg4 (by omega)
                  have hb4 : Below w3.heap.size w3 w4 := hb.grown hg4 hb.size (fun t ht => by cases ht; omega)
                  clear hdg hps hng hb hg4 cd
                  go_wp2
                  go_roundw
                  case rel => exact ⟨q + 1, by omega, by go_num, hdg4, by rw [E1.out]; exact hps4, by rw [E2.out]; exact hng4, hb4⟩
                  case measure => simp [intOf]; omega
                · have e1 := HPs.out
                  have e2 := HNg.out
                  rw [if_neg hpos, Int.add_zero] at e1
                  rw [if_neg hneg, Int.add_zero] at e2
                  have E1 : Hid (Pl.ps (lb zs) (q + 1) = Pl.ps (lb zs) q) := e1
                  have E2 : Hid (Pl.ng (lb zs) (q + 1) = Pl.ng (lb zs) q) := e2
                  clear e1 e2 HPs HNg
                  go_wp2
                  go_roundw
                  case rel => exact ⟨q + 1, by omega, by go_num, hdg, by rw [E1.out]; exact hps, by rw [E2.out]; exact hng, hb⟩
                  case measure => simp [intOf]; omega
            · obtain rfl : q = 43 := by omega
              clear hdg
              go_wp2
              obtain ⟨wa, hwa⟩ : ∃ wa : World, wa = wr := ⟨_, rfl⟩
              subst hwa
              go_loopw [10] (fun i wr => ∃ m : Nat, m ≤ 32 ∧ i = .int .i64 m ∧ Num wr (w3.heap.size + 1) (Pl.ps (lb zs) 43) ∧ Num wr (w3.heap.size + 1 + 1) (Pl.ng (lb zs) 43 + Pl.by8 (lb zs) m) ∧ Below w3.heap.size w3 wr)
                (fun i _ => 32 - (intOf i).toNat)
              case atStart => exact ⟨0, by omega, rfl, hps, by rw [show Pl.by8 (lb zs) 0 = 0 from rfl, Int.add_zero]; exact hng, hb⟩
              case round =>
                clear hps hng hb
                obtain ⟨m, hm, rfl, hps, hng, hb⟩ := hrel
                by_cases hlt2 : m < 32
                · have cz : wr.cell? ⟨w'.heap.size, 31 - m, none⟩ = some (.int .u8 (lb zs m)) := by
                    rw [hb.cell (p := ⟨w'.heap.size, 31 - m, none⟩) hw3, HCN3.out _ (by omega)]; rfl
                  have hv := lb_bd HZ.out m
                  have HB : Hid (Pl.ng (lb zs) 43 + Pl.by8 (lb zs) (m + 1) = Pl.ng (lb zs) 43 + Pl.by8 (lb zs) m + lb zs m * 2 ^ (8 * m)) := by
                    show _ = _
                    rw [Int.add_assoc]; rfl
                  have HT : Hid (Pl.ng (lb zs) 43 + Pl.by8 (lb zs) m + lb zs m * 2 ^ (8 * m) < 256 ^ 40) := by
                    show _ < _
                    rw [← HB.out]
                    exact Pl.ng_small (lb zs) (lb_bd HZ.out) 43 (m + 1) (by omega) (by omega)
                  obtain ⟨v, hv'⟩ : ∃ v, v = lb zs m := ⟨_, rfl⟩
                  rw [← hv'] at cz hv HB HT
                  obtain ⟨hv0, hv1⟩ := hv
                  have i2 : (31 : Int) - (m : Int) < (k : Int) := by omega
                  clear hv'
                  go_wp2_with fail
                  refine (add_num (w3.heap.size + 1 + 1) (Pl.ng (lb zs) 43 + Pl.by8 (lb zs) m) v _ (8 * m) wr (by omega) (by omega) (by omega) (by omega) hng HT.out).mono ?_
                  rintro e w4 ⟨rfl, hng4, hg4⟩
                  have hps4 := hps.grown hg4 (by omega)
                  have hb4 : Below w3.heap.size w3 w4 := hb.grown hg4 hb.size (fun t ht => by cases ht; omega)
                  clear hps hng hb hg4 cz
                  go_wp2
                  go_roundw
                  case rel =>
                    have REL : ∃ m' : Nat, m' ≤ 32 ∧ Value.int .i64 ((m : Int) + 1) = .int .i64 m' ∧ Num w4 (w3.heap.size + 1) (Pl.ps (lb zs) 43) ∧ Num w4 (w3.heap.size + 1 + 1) (Pl.ng (lb zs) 43 + Pl.by8 (lb zs) m') ∧ Below w3.heap.size w3 w4 :=
                      ⟨m + 1, by omega, by go_num, hps4, by rw [HB.out]; exact hng4, hb4⟩
                    first | exact REL | ((repeat apply Exists.intro); exact ⟨REL, rfl⟩)
                  case measure => simp [intOf]; omega
                · obtain rfl : m = 32 := by omega
                  have HS := Pl.sides (lb zs) (lb_bd HZ.out)
                  obtain ⟨f1, a1, l1, e1⟩ := hps
                  obtain ⟨f2, a2, l2, e2⟩ := hng
                  have HEQ : Hid (∀ j, j < 40 → f1 j = f2 j) := Pl.wt_eq l1 l2 (by rw [e1, e2, HS])
                  have hfin : Below w'.heap.size w' wr := hb03.trans (hb.mono hb03.size)
                  have g1 := a1.lt
                  have g2 := a2.lt
                  clear HS e1 e2 l1 l2
                  go_wp2
                  obtain ⟨wc, hwc⟩ : ∃ wc : World, wc = wr := ⟨_, rfl⟩
                  subst hwc
                  go_loopw [11] (fun i wr => ∃ j : Nat, j ≤ 40 ∧ i = .int .i64 j ∧ Below wc.heap.size wc wr) (fun i _ => 40 - (intOf i).toNat)
                  case atStart => exact ⟨0, by omega, rfl, Below.refl _ _⟩
                  case round =>
                    obtain ⟨j, hj, rfl, hbm⟩ := hrel
                    by_cases hlt3 : j < 40
                    · have c1 : wr.cell? ⟨w3.heap.size + 1, j, none⟩ = some (.int .i64 (f2 j)) := by
                        rw [hbm.cell (p := ⟨w3.heap.size + 1, j, none⟩) g1, a1.cell hlt3, HEQ.out j hlt3]
                      have c2 : wr.cell? ⟨w3.heap.size + 1 + 1, j, none⟩ = some (.int .i64 (f2 j)) := by
                        rw [hbm.cell (p := ⟨w3.heap.size + 1 + 1, j, none⟩) g2, a2.cell hlt3]
                      obtain ⟨v, hv'⟩ : ∃ v, v = f2 j := ⟨_, rfl⟩
                      rw [← hv'] at c1 c2
                      have i1 : (j : Int) < 40 := by omega
                      clear hv'
                      go_wp2
                      go_quiet (fail)
                      go_wp2
                      go_roundw
                      case rel => exact ⟨j + 1, by omega, by go_num, below_drewN hbm nq⟩
                      case measure => simp [intOf]; omega
                    · go_wp2
                      go_ret
                      exact ⟨rfl, hfin.trans (hbm.mono (by omega))⟩

theorem top_any (a : Option Addr) (n c : Nat) (zs : List Int) (w : World) (hn : n ≤ maxLen) (hz : Bytes zs)
    (hp : 0 < n → ∃ b off, a = some ⟨b, off, none⟩ ∧ b < w.heap.size ∧ ∀ j, j < n → w.cell? ⟨b, off + j, none⟩ = some (.int .u8 (zs.getD j 0))) :
    Calls Trym.prog 3 #[.slice a n c] w fun e w' => e = .returned (.bool true) ∧ Below w.heap.size w w' := by
  by_cases h1 : n ≤ 1048576
  · by_cases h2 : 32 ≤ n ∧ n ≤ 65536
    · obtain ⟨b, off, rfl, hb, hc⟩ := hp (by omega)
      exact top_main b off n c zs w h2.1 h2.2 hb hc hz
    · have HF : Hid (fitB n = true) := by show fitB n = true; simp [fitB, h1]
      have HN : Hid (n ≤ maxLen) := hn
      clear hn hp hz
      rcases (show n < 32 ∨ 65536 < n from by omega) with h | h
      all_goals
        clear h2
        go_enter Trym.func3, Trym.ntmps3
        go_wp2_with fail
        refine (bytes_any a n c w HN.out).mono ?_
        rw [HF.out]
        rintro e w' ⟨rfl, rfl⟩
        go_wp2
        go_ret
        exact ⟨rfl, Below.refl _ _⟩
  · have HF : Hid (fitB n = false) := by show fitB n = false; simp [fitB]; omega
    have HN : Hid (n ≤ maxLen) := hn
    clear hn hp hz
    go_enter Trym.func3, Trym.ntmps3
    go_wp2_with fail
    refine (bytes_any a n c w HN.out).mono ?_
    rw [HF.out]
    rintro e w' ⟨rfl, rfl⟩
    go_wp2
    go_ret
    exact ⟨rfl, Below.refl _ _⟩
end Go.Proofs.Qxb6003647aMods
