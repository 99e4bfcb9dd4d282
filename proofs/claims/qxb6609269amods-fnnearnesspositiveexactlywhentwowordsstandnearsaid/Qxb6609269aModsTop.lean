/-
  Seat b6609269aM: the statement's function (5).
-/
import Derived.Test.Qxb6609269aModsEnd
import Derived.Deep.RegionHeld3
namespace Go.Proofs.Qxb6609269aMods
open Go.RowKit

theorem idf_of {x : Nat} (hx : x < 18446744073709551616) (h1 : (FloatKind.f64.format.order x 4517329193108106637 == some Ordering.gt || FloatKind.f64.format.order x 4517329193108106637 == some Ordering.eq) = true)
    (h2 : (FloatKind.f64.format.order x 4696837146684686336 == some Ordering.lt || FloatKind.f64.format.order x 4696837146684686336 == some Ordering.eq) = true) : Fl.Idf x := by
  have hp := Fl.W_pos 1054
  have f1 : Fl.Fin 4517329193108106637 := by unfold Fl.Fin; omega
  have f2 : Fl.Fin 4696837146684686336 := by unfold Fl.Fin; omega
  have e1 := Fl.lo_V
  have e2 := Fl.hi_V
  have g1 := Fl.ge_const hx f1 (by omega) h1
  have g2 := Fl.le_const f2 (by rcases g1 with g | g; exact .inl g.1; exact .inr g) h2
  rcases g1 with g | g
  · exact ⟨g.1, by omega, by omega⟩
  · have := g2.1
    unfold Fl.Fin at this
    omega
theorem avg_of {x : Nat} (hx : x < 18446744073709551616) (h1 : (FloatKind.f64.format.order x 4517329193108106637 == some Ordering.gt || FloatKind.f64.format.order x 4517329193108106637 == some Ordering.eq) = true) : Avg x := by
  have hp := Fl.W_pos 1054
  have f1 : Fl.Fin 4517329193108106637 := by unfold Fl.Fin; omega
  have e1 := Fl.lo_V
  rcases Fl.ge_const hx f1 (by omega) h1 with g | g
  · exact .inl ⟨g.1, by omega⟩
  · exact .inr g

set_option maxHeartbeats 6400000 in
set_option maxRecDepth 100000 in
theorem top_any (a1 : Option Addr) (n c1 : Nat) (ts : List (List Int)) (a2 : Option Addr) (nf c2 : Nat) (fs : List Nat) (avg : Nat) (a3 : Option Addr) (m c3 : Nat) (zs : List Int) (l0 l1 l2 l3 : Int) (w : World)
    (hT : Terms w.heap.size w a1 n ts) (h01 : a1 = none → n = 0 ∧ c1 = 0) (hF : Lies w a2 nf (vf fs)) (h02 : a2 = none → nf = 0 ∧ c2 = 0) (hfw : ∀ i, fs.getD i 0 < 18446744073709551616) (hav : avg < 18446744073709551616)
    (hZ : Lies w a3 m (vi zs)) (h03 : a3 = none → m = 0 ∧ c3 = 0) :
    Calls Trym.prog 5 #[.slice a1 n c1, .slice a2 nf c2, .float .f64 avg, .slice a3 m c3, .agg #[.int .i32 l0, .int .i32 l1, .int .i32 l2, .int .i32 l3]] w fun e w' => e = .returned (.bool true) ∧ Below w.heap.size w w' := by
  have HT : Hid (Terms w.heap.size w a1 n ts) := hT
  have HF : Hid (Lies w a2 nf (vf fs)) := hF
  have HZ : Hid (Lies w a3 m (vi zs)) := hZ
  have H0 : Hid ((a1 = none → n = 0 ∧ c1 = 0) ∧ (a2 = none → nf = 0 ∧ c2 = 0) ∧ (a3 = none → m = 0 ∧ c3 = 0)) := ⟨h01, h02, h03⟩
  have HW : Hid (∀ i, fs.getD i 0 < 18446744073709551616) := hfw
  have HV : Hid (avg < 18446744073709551616) := hav
  clear hT hF hZ h01 h02 h03 hfw hav
  go_enter Trym.func5, Trym.ntmps5
  go_wp2_with fail
  refine (zz_any a1 n c1 ts a2 nf c2 avg a3 m c3 l0 l1 l2 l3 _ ((HT.out.below ((Below.refl _ _).alloc (Nat.le_refl _) _)).mono (by simp))).mono ?_
  rintro e wA ⟨⟨bz, rfl⟩, hbA⟩
  have HB0 : Hid (Below w.heap.size w wA) := ((Below.refl _ _).alloc (Nat.le_refl _) _).trans (hbA.mono (by simp))
  have HL : Hid (Blk wA w.heap.size 29 [.int .i32 l0, .int .i32 l1, .int .i32 l2, .int .i32 l3]) := (Blk.new w 29 _).below hbA (by simp)
  have HT' : Hid (Terms wA.heap.size wA a1 n ts) := (HT.out.below HB0.out).mono HB0.out.size
  have HF' : Hid (Lies wA a2 nf (vf fs)) := HF.out.below HB0.out
  have HZ' : Hid (Lies wA a3 m (vi zs)) := HZ.out.below HB0.out
  clear hbA HT HF HZ
  cases bz with
  | false =>
    go_wp2
    go_ret
    exact ⟨rfl, HB0.out⟩
  | true =>
    by_cases h1 : n ≤ 256
    · by_cases h2 : nf ≤ 256
      · by_cases h3 : m ≤ 4096
        · go_wp2
          go_loop [11, 12] (fun s i => ∃ k t : Nat, k ≤ n ∧ i = .int .i64 k ∧ s = .int .i64 (t : Int) ∧ t ≤ 34816 + k * 2048 ∧ ∀ j, j < k → (ts.getD j []).length ≤ 256) (fun _ i => n - (intOf i).toNat)
          case atStart => exact ⟨0, 8 * nf + 8 * m, Nat.zero_le _, rfl, by go_num, by omega, fun j hj => by omega⟩
          case round =>
            obtain ⟨k, t, hk, rfl, rfl, ht, hall⟩ := hrel
            have HA : Hid (∀ j, j < k → (ts.getD j []).length ≤ 256) := hall
            clear hall
            by_cases hlt : k < n
            · obtain ⟨b, off, ai, ci, rfl, hb, hc, _, _⟩ := HT'.out.at hlt
              have i1 : (k : Int) < (n : Int) := by omega
              obtain ⟨ln, hln⟩ : ∃ ln, ln = (ts.getD k []).length := ⟨_, rfl⟩
              rw [← hln] at hc
              have HLN : Hid (ln = (ts.getD k []).length) := hln
              clear hln
              by_cases h4 : ln ≤ 256
              · go_wp2
                go_round
                case rel =>
                  refine ⟨k + 1, t + 8 * ln, by omega, by go_num, by go_num, by omega, fun j hj => ?_⟩
                  by_cases e : j = k
                  · subst e; rw [← HLN.out]; exact h4
                  · exact HA.out j (by omega)
                case measure => simp [intOf]; omega
              · go_wp2
                go_ret
                exact ⟨rfl, HB0.out⟩
            · have hkn : k = n := by omega
              subst hkn
              have ht' : t ≤ 559104 := by omega
              clear ht
              by_cases h4 : nf = k
              · subst h4
                go_wp2
                go_loop [13] (fun i => ∃ j : Nat, j ≤ nf ∧ i = .int .i64 j ∧ ∀ q, q < j → Fl.Idf (fs.getD q 0)) (fun i => nf - (intOf i).toNat)
                case atStart => exact ⟨0, Nat.zero_le _, rfl, fun j hj => by omega⟩
                case round =>
                  obtain ⟨j, hj, rfl, hid⟩ := hrel
                  have HI : Hid (∀ q, q < j → Fl.Idf (fs.getD q 0)) := hid
                  clear hid
                  by_cases hlj : j < nf
                  · obtain ⟨b, off, rfl, _, hc⟩ := HF'.out.at hlj
                    have hlen : fs.length = nf := by have := HF'.out.1; rwa [vf_len] at this
                    rw [vf_at fs j (by omega)] at hc
                    have i1 : (j : Int) < (nf : Int) := by omega
                    obtain ⟨x, hx⟩ : ∃ x, x = fs.getD j 0 := ⟨_, rfl⟩
                    rw [← hx] at hc
                    have HX : Hid (x = fs.getD j 0) := hx
                    clear hx hlen
                    cases hb1 : (FloatKind.f64.format.order x 4517329193108106637 == some Ordering.gt || FloatKind.f64.format.order x 4517329193108106637 == some Ordering.eq) with
                    | false =>
                      go_wp2
                      go_ret
                      exact ⟨rfl, HB0.out⟩
                    | true =>
                      cases hb2 : (FloatKind.f64.format.order x 4696837146684686336 == some Ordering.lt || FloatKind.f64.format.order x 4696837146684686336 == some Ordering.eq) with
                      | false =>
                        go_wp2
                        go_ret
                        exact ⟨rfl, HB0.out⟩
                      | true =>
                        have HI2 : Hid (Fl.Idf (fs.getD j 0)) := by rw [← HX.out]; exact idf_of (by rw [HX.out]; exact HW.out j) hb1 hb2
                        go_wp2
                        go_round
                        case rel =>
                          refine ⟨j + 1, by omega, by go_num, fun q hq => ?_⟩
                          by_cases e : q = j
                          · subst e; exact HI2.out
                          · exact HI.out q (by omega)
                        case measure => simp [intOf]; omega
                  · have hjn : j = nf := by omega
                    subst hjn
                    cases hb1 : (FloatKind.f64.format.order avg 4517329193108106637 == some Ordering.gt || FloatKind.f64.format.order avg 4517329193108106637 == some Ordering.eq) with
                    | false =>
                      go_wp2
                      go_ret
                      exact ⟨rfl, HB0.out⟩
                    | true =>
                      have HAvg : Hid (Avg avg) := avg_of HV.out hb1
                      have d0 := HL.out.cell 0
                      have d1 := HL.out.cell 1
                      have d2 := HL.out.cell 2
                      have d3 := HL.out.cell 3
                      simp only [List.getElem?_cons_zero, List.getElem?_cons_succ] at d0 d1 d2 d3
                      go_wp2
                      clear hb1 HW HV
                      go_loop [14] (fun i => ∃ q : Nat, q ≤ 4 ∧ i = .int .i64 q ∧ (0 < q → 0 ≤ l0 ∧ l0 ≤ 268435456) ∧ (1 < q → 0 ≤ l1 ∧ l1 ≤ 268435456) ∧ (2 < q → 0 ≤ l2 ∧ l2 ≤ 268435456) ∧ (3 < q → 0 ≤ l3 ∧ l3 ≤ 268435456)) (fun i => 4 - (intOf i).toNat)
                      case atStart => exact ⟨0, by omega, rfl, fun h => by omega, fun h => by omega, fun h => by omega, fun h => by omega⟩
                      case round =>
                        obtain ⟨q, hq, rfl, p0, p1, p2, p3⟩ := hrel
                        by_cases hq4 : q < 4
                        · have hx : q = 0 ∨ q = 1 ∨ q = 2 ∨ q = 3 := by omega
                          rcases hx with rfl | rfl | rfl | rfl
                          · clear p0 p1 p2 p3 d1 d2 d3
                            by_cases g1 : l0 < 0
                            · go_wp2
                              go_ret
                              exact ⟨rfl, HB0.out⟩
                            · by_cases g2 : 268435456 < l0
                              · go_wp2
                                go_ret
                                exact ⟨rfl, HB0.out⟩
                              · go_wp2
                                go_round
                                case rel => exact ⟨1, by omega, rfl, fun _ => by omega, fun h => by omega, fun h => by omega, fun h => by omega⟩
                                case measure => simp [intOf]
                          · have P0 : Hid (0 ≤ l0 ∧ l0 ≤ 268435456) := p0 (by omega)
                            clear p0 p1 p2 p3 d0 d2 d3
                            by_cases g1 : l1 < 0
                            · go_wp2
                              go_ret
                              exact ⟨rfl, HB0.out⟩
                            · by_cases g2 : 268435456 < l1
                              · go_wp2
                                go_ret
                                exact ⟨rfl, HB0.out⟩
                              · go_wp2
                                go_round
                                case rel => exact ⟨2, by omega, rfl, fun _ => P0.out, fun h => by omega, fun h => by omega, fun h => by omega⟩
                                case measure => simp [intOf]
                          · have P0 : Hid (0 ≤ l0 ∧ l0 ≤ 268435456) := p0 (by omega)
                            have P1 : Hid (0 ≤ l1 ∧ l1 ≤ 268435456) := p1 (by omega)
                            clear p0 p1 p2 p3 d0 d1 d3
                            by_cases g1 : l2 < 0
                            · go_wp2
                              go_ret
                              exact ⟨rfl, HB0.out⟩
                            · by_cases g2 : 268435456 < l2
                              · go_wp2
                                go_ret
                                exact ⟨rfl, HB0.out⟩
                              · go_wp2
                                go_round
                                case rel => exact ⟨3, by omega, rfl, fun _ => P0.out, fun _ => P1.out, fun h => by omega, fun h => by omega⟩
                                case measure => simp [intOf]
                          · have P0 : Hid (0 ≤ l0 ∧ l0 ≤ 268435456) := p0 (by omega)
                            have P1 : Hid (0 ≤ l1 ∧ l1 ≤ 268435456) := p1 (by omega)
                            have P2 : Hid (0 ≤ l2 ∧ l2 ≤ 268435456) := p2 (by omega)
                            clear p0 p1 p2 p3 d0 d1 d2
                            by_cases g1 : l3 < 0
                            · go_wp2
                              go_ret
                              exact ⟨rfl, HB0.out⟩
                            · by_cases g2 : 268435456 < l3
                              · go_wp2
                                go_ret
                                exact ⟨rfl, HB0.out⟩
                              · go_wp2
                                go_round
                                case rel => exact ⟨4, by omega, rfl, fun _ => P0.out, fun _ => P1.out, fun _ => P2.out, fun _ => by omega⟩
                                case measure => simp [intOf]
                        · have hq' : q = 4 := by omega
                          subst hq'
                          obtain ⟨k0, hk0⟩ := Int.eq_ofNat_of_zero_le (p0 (by omega)).1
                          obtain ⟨k1, hk1⟩ := Int.eq_ofNat_of_zero_le (p1 (by omega)).1
                          obtain ⟨k2, hk2⟩ := Int.eq_ofNat_of_zero_le (p2 (by omega)).1
                          obtain ⟨k3, hk3⟩ := Int.eq_ofNat_of_zero_le (p3 (by omega)).1
                          subst hk0 hk1 hk2 hk3
                          have HLB : Hid (k0 ≤ 268435456 ∧ k1 ≤ 268435456 ∧ k2 ≤ 268435456 ∧ k3 ≤ 268435456) := ⟨by have := p0 (by omega); omega, by have := p1 (by omega); omega, by have := p2 (by omega); omega, by have := p3 (by omega); omega⟩
                          have HTL : Hid (∀ i, (ts.getD i []).length ≤ 256) := fun i => by
                            by_cases h : i < j
                            · exact HA.out i h
                            · have e : ts.getD i [] = [] := by
                                have := HT'.out.1
                                rw [List.getD_eq_getElem?_getD, List.getElem?_eq_none (by omega)]
                                rfl
                              rw [e]
                              exact Nat.zero_le _
                          clear p0 p1 p2 p3 d0 d1 d2 d3 HA
                          go_wp2_with fail
                          refine (ct_any a1 j c1 ts wA (by omega) H0.out.1 HTL.out HT'.out).mono ?_
                          rintro e w1 ⟨b1, rfl, z1, T1, B1⟩
                          go_wp2_with fail
                          refine (clonef_any a2 j c2 fs w1 (by omega) H0.out.2.1 (HF'.out.below B1)).mono ?_
                          rintro e w2 ⟨b2, rfl, z2, _, F2, B2⟩
                          go_wp2_with fail
                          refine (clone_any a3 m c3 zs w2 (by omega) H0.out.2.2 (HZ'.out.below (B1.trans (B2.mono B1.size)))).mono ?_
                          rintro e w3 ⟨b3, rfl, z3, _, Z3, B3⟩
                          have T3 : Terms w3.heap.size w3 b1 j ts := ((T1.below B2).mono B2.size |>.below B3).mono B3.size
                          have F3 : Lies w3 b2 j (vf fs) := F2.below B3
                          have B03 : Below w.heap.size w w3 := HB0.out.trans ((B1.trans ((B2.mono B1.size).trans (B3.mono (Nat.le_trans B1.size B2.size)))).mono HB0.out.size)
                          have L3 : Blk w3 w.heap.size 29 [.int .i32 (k0 : Int), .int .i32 (k1 : Int), .int .i32 (k2 : Int), .int .i32 (k3 : Int)] := ((HL.out.below B1 HL.out.lt).below B2 (Nat.lt_of_lt_of_le HL.out.lt B1.size)).below B3 (Nat.lt_of_lt_of_le HL.out.lt (Nat.le_trans B1.size B2.size))
                          have HT3 : Hid (Terms w3.heap.size w3 b1 j ts) := T3
                          have HF3 : Hid (Lies w3 b2 j (vf fs)) := F3
                          have HZ3 : Hid (Lies w3 b3 m (vi zs)) := Z3
                          have HB3 : Hid (Below w.heap.size w w3) := B03
                          have HL3 : Hid (Blk w3 w.heap.size 29 [.int .i32 (k0 : Int), .int .i32 (k1 : Int), .int .i32 (k2 : Int), .int .i32 (k3 : Int)]) := L3
                          have HZN : Hid ((b1 = none → j = 0) ∧ (b2 = none → j = 0) ∧ (b3 = none → m = 0)) := ⟨z1, z2, z3⟩
                          clear T1 F2 Z3 T3 F3 B03 L3 B1 B2 B3 z1 z2 z3 HT' HF' HZ' HL HB0 H0
                          go_wp2_with fail
                          refine (ct_any b1 j j ts w3 (by omega) (fun h => ⟨HZN.out.1 h, HZN.out.1 h⟩) HTL.out HT3.out).mono ?_
                          rintro e w4 ⟨b4, rfl, z4, T4, B4⟩
                          go_wp2_with fail
                          refine (clonef_any b2 j j fs w4 (by omega) (fun h => ⟨HZN.out.2.1 h, HZN.out.2.1 h⟩) (HF3.out.below B4)).mono ?_
                          rintro e w5 ⟨b5, rfl, z5, _, F5, B5⟩
                          go_wp2_with fail
                          refine (ranker_any b4 j j ts b5 j j avg w5 (by omega) ((T4.below B5).mono B5.size)).mono ?_
                          rintro e w6 ⟨gM, gP, gR, xs, rfl, hR, hP, hw, B6⟩
                          have B36 : Below w3.heap.size w3 w6 := B4.trans ((B5.mono B4.size).trans (B6.mono (Nat.le_trans B4.size B5.size)))
                          have H6 : Hid (Rnk w6 w5.heap.size gM gP gR j b5 j j avg xs ∧ Blk w6 gP 41 (List.replicate j (.slice none 0 0)) ∧ (∀ q, q < j → WordH w5 xs ts q) ∧ Below w5.heap.size w5 w6 ∧ Lies w5 b5 j (vf fs) ∧ Below w3.heap.size w3 w6 ∧ w3.heap.size ≤ w5.heap.size) := ⟨hR, hP, hw, B6, F5, B36, Nat.le_trans B4.size B5.size⟩
                          have L6 := HL3.out.below B36 HL3.out.lt
                          have d0 := L6.cell 0
                          have d1 := L6.cell 1
                          have d2 := L6.cell 2
                          have d3 := L6.cell 3
                          simp only [List.getElem?_cons_zero, List.getElem?_cons_succ] at d0 d1 d2 d3
                          have HL6 : Hid (w.heap.size < w6.heap.size ∧ (∀ w7, Below w6.heap.size w6 w7 → w7.cell? ⟨w.heap.size, 0, none⟩ = some (.int .i32 (k0 : Int)) ∧ w7.cell? ⟨w.heap.size, 1, none⟩ = some (.int .i32 (k1 : Int)) ∧ w7.cell? ⟨w.heap.size, 2, none⟩ = some (.int .i32 (k2 : Int)) ∧ w7.cell? ⟨w.heap.size, 3, none⟩ = some (.int .i32 (k3 : Int)))) := ⟨L6.lt, fun w7 hb => by
                            have L7 := L6.below hb L6.lt
                            have e0 := L7.cell 0
                            have e1 := L7.cell 1
                            have e2 := L7.cell 2
                            have e3 := L7.cell 3
                            exact ⟨e0, e1, e2, e3⟩⟩
                          have HQ : Hid (Lies w6.drew b3 m (vi zs)) := HZ3.out.below B36.drew
                          clear T4 F5 hR hP hw B4 B5 B6 B36 L6 z4 z5
                          go_wp2
                          go_region_held3 (fun w' => w'.cell? ⟨w.heap.size, 0, none⟩ = some (.int .i32 (k0 : Int)) ∧ w'.cell? ⟨w.heap.size, 1, none⟩ = some (.int .i32 (k1 : Int)) ∧ w'.cell? ⟨w.heap.size, 2, none⟩ = some (.int .i32 (k2 : Int)) ∧ w'.cell? ⟨w.heap.size, 3, none⟩ = some (.int .i32 (k3 : Int))) (first | exact ⟨d0, d1, d2, d3⟩ | exact HS8.out | exact HS7.out)
                            (first
                              | (go_at_call 10; refine (clone_any b3 m m zs w6.drew (by omega) (fun h => ⟨HZN.out.2.2 h, HZN.out.2.2 h⟩) HQ.out).mono ?_; rintro e w7 ⟨b7, rfl, z7, y7, F7, B7⟩; have B7' : Below w6.heap.size w6 w7 := ⟨B7.os, B7.tape, B7.output, B7.size, B7.block⟩; have H7 : Hid ((∀ y, b7 = some y → w6.heap.size ≤ y.block) ∧ Lies w7 b7 m (vi zs) ∧ Below w6.heap.size w6 w7) := ⟨y7, F7, B7'⟩; have HS7 : Hid _ := HL6.out.2 w7 B7'; clear z7 y7 F7 B7 B7')
                              | (go_at_call 12; refine (entry_any b7 m m (k0 : Int) (k1 : Int) (k2 : Int) (k3 : Int) _).mono ?_; rintro e w8 ⟨gE, rfl, hgE, hE, B8⟩; have H8 : Hid (w7.heap.size ≤ gE ∧ Blk w8 gE 64 (enCells b7 m m k0 k1 k2 k3) ∧ Below w7.heap.size w7 w8) := ⟨hgE, hE, B8⟩; have HS8 : Hid _ := HL6.out.2 w8 (H7.out.2.2.trans (B8.mono H7.out.2.2.size)); clear hgE hE B8))
                          go_wp2_with fail
                          have hlenf : fs.length = j := by have := HF3.out.1; rwa [vf_len] at this
                          have hlenz : zs.length = m := by have := HZ3.out.1; rwa [vi_len] at this
                          have hB8 : Below w6.heap.size w6 w8 := H7.out.2.2.trans (H8.out.2.2.mono H7.out.2.2.size)
                          have hRdy : Ready w8 w5.heap.size gM gP gR gE j m ts zs fs avg xs b5 j b7 m k0 k1 k2 k3 := ready_made H6.out.1 H6.out.2.2.1 H6.out.2.2.2.2.1 H6.out.2.2.2.1 H7.out.2.1 H7.out.1 H7.out.2.2 H8.out.2.1 H8.out.1 H8.out.2.2 (by omega) h3 HTL.out hlenf
                          refine (shim_any hRdy (H6.out.2.1.below hB8 H6.out.2.1.lt) HLB.out HAvg.out HI.out).mono ?_
                          rintro e w9 ⟨got, rfl, hAt, hG9⟩
                          have hPge : w3.heap.size ≤ gP := by have := H6.out.1.2.2.2; have := H6.out.2.2.2.2.2.2; omega
                          have B39 : Below w3.heap.size w3 w9 := (H6.out.2.2.2.2.2.1.trans (hB8.mono H6.out.2.2.2.2.2.1.size)).grown hG9 (Nat.le_trans H6.out.2.2.2.2.2.1.size hB8.size) (fun k e => by cases e; exact hPge)
                          have HAt : Hid (At ts zs fs m j j 0 got) := hAt
                          have HB39 : Hid (Below w3.heap.size w3 w9) := B39
                          have HT9 : Hid (Terms w9.heap.size w9 b1 j ts) := (HT3.out.below B39).mono B39.size
                          have HF9 : Hid (Lies w9 b2 j (vf fs)) := HF3.out.below B39
                          have HZ9 : Hid (Lies w9 b3 m (vi zs)) := HZ3.out.below B39
                          clear hAt hG9 B39 hB8 hRdy H6 H7 H8 HS7 HS8 HL6 HQ d0 d1 d2 d3 hPge HT3 HF3 HZ3 HL3 HLB HAvg
                          go_wp2_with fail
                          refine (table_any b1 j j ts b3 m m zs w9 (by omega) h3 HTL.out HT9.out HZ9.out).mono ?_
                          rintro e w10 ⟨hs, rfl, hB10, hl10, hT10, B10⟩
                          have H10 : Hid (Blk w10 w9.heap.size 44 hs ∧ (∀ i, i < j → TRow w9.heap.size w10 hs m (mt ts zs i) i) ∧ Below w9.heap.size w9 w10) := ⟨hB10, hT10, B10⟩
                          clear hB10 hl10 hT10 B10
                          go_wp2_with fail
                          refine (text_any b3 m m zs w10 h3 (HZ9.out.below H10.out.2.2)).mono ?_
                          rintro e w11 ⟨rfl, hR11, _, B11⟩
                          have HRow : Hid (∀ i, i < j → ∃ g, w11.cell? ⟨w9.heap.size, i, none⟩ = some (.slice (some ⟨g, 0, none⟩) m m) ∧ RowF w11 g m (fun a => .bool (mt ts zs i a))) := fun i hi => loop_facts H10.out.1 H10.out.2.1 B11 hi
                          have HTx : Hid (RowF w11 w10.heap.size m (fun a => .int .i64 (br zs (a + 1)))) := hR11
                          have HF11 : Hid (Lies w11 b2 j (vf fs)) := (HF9.out.below H10.out.2.2).below B11
                          have HBE : Hid (∀ d, Below w.heap.size w (w11.drewN d)) := fun d => by
                            have b1 : Below w3.heap.size w3 w11 := HB39.out.trans ((H10.out.2.2.mono HB39.out.size).trans (B11.mono (Nat.le_trans HB39.out.size H10.out.2.2.size)))
                            have b2 : Below w.heap.size w w11 := HB3.out.trans (b1.mono HB3.out.size)
                            exact ⟨b2.os, b2.tape, b2.output, b2.size, b2.block⟩
                          clear hR11 B11 H10 HT9 HF9 HZ9 HB39 HB3 HTL HZN
                          go_wp2
                          go_loopw [20, 21, 22] (fun an x i wr => ∃ k b d : Nat, k ≤ j ∧ i = .int .i64 k ∧ x = .float .f64 b ∧ an = .bool (anyB ts zs m j k 0) ∧ BdAt ts zs fs m j k 0 b ∧ wr = w11.drewN d) (fun _ _ i _ => j - (intOf i).toNat)
                          case atStart => exact ⟨0, 0, 0, Nat.zero_le _, rfl, rfl, rfl, BdAt.zero ts zs fs m j, rfl⟩
                          case round =>
                            obtain ⟨k, b, d, hk, rfl, rfl, rfl, hBd, rfl⟩ := hrel
                            by_cases hlk : k < j
                            · have HBd : Hid (BdAt ts zs fs m j k (k + 1) b) := hBd.start
                              have HAn : Hid (anyB ts zs m j k (k + 1) = anyB ts zs m j k 0) := anyB_start ts zs m j k
                              have i1 : (k : Int) < (j : Int) := by omega
                              clear hBd
                              go_wp2
                              go_loopw [20, 21, 23] (fun an x i wr => ∃ q b d : Nat, k < q ∧ q ≤ j ∧ i = .int .i64 q ∧ x = .float .f64 b ∧ an = .bool (anyB ts zs m j k q) ∧ BdAt ts zs fs m j k q b ∧ wr = w11.drewN d) (fun _ _ i _ => j - (intOf i).toNat)
                              case atStart => exact ⟨k + 1, b, d, by omega, by omega, by go_num, rfl, by rw [HAn.out], HBd.out, rfl⟩
                              case round =>
                                clear HBd HAn
                                obtain ⟨q, b, d, hkq, hqj, rfl, rfl, rfl, hBd, rfl⟩ := hrel
                                by_cases hlq : q < j
                                · have i2 : (q : Int) < (j : Int) := by omega
                                  have HBd : Hid (BdAt ts zs fs m j k q b) := hBd
                                  obtain ⟨g1, cg1, r1⟩ := HRow.out k hlk
                                  obtain ⟨g2, cg2, r2⟩ := HRow.out q hlq
                                  have HR1 : Hid (RowF w11 g1 m (fun a => .bool (mt ts zs k a))) := r1
                                  have HR2 : Hid (RowF w11 g2 m (fun a => .bool (mt ts zs q a))) := r2
                                  clear hBd r1 r2
                                  cases hN : NN ts zs m k q with
                                  | false =>
                                    have HC : Hid (∀ d, Calls Trym.prog 16 #[.slice (some ⟨g1, 0, none⟩) m m, .slice (some ⟨g2, 0, none⟩) m m, .slice (some ⟨w10.heap.size, 0, none⟩) m m] (w11.drewN d).drew fun e w' => e = .returned (.float .f64 0) ∧ ∃ q, w' = (w11.drewN d).drew.drewN q) := fun d => pair_miss h3 hlenz HR1.out HR2.out HTx.out hN d
                                    have HBd' : Hid (BdAt ts zs fs m j k (q + 1) b) := HBd.out.miss hN
                                    have HAn : Hid (anyB ts zs m j k (q + 1) = anyB ts zs m j k q) := anyB_miss hN
                                    have hg0 := gt_zero
                                    clear HBd hN
                                    go_wp2
                                    go_region_held3 (fun w' => w'.cell? ⟨w9.heap.size, k, none⟩ = some (.slice (some ⟨g1, 0, none⟩) m m) ∧ w'.cell? ⟨w9.heap.size, q, none⟩ = some (.slice (some ⟨g2, 0, none⟩) m m)) (exact ⟨cg1, cg2⟩) (first | (go_at_call 16; refine (HC.out d).mono ?_; rintro e w' ⟨rfl, y, rfl⟩))
                                    go_wp2
                                    go_roundw
                                    case rel => exact ⟨q + 1, b, d + 1 + y, by omega, by omega, by go_num, rfl, by rw [HAn.out], HBd'.out, rfl⟩
                                    case measure => simp [intOf]; omega
                                  | true =>
                                    obtain ⟨bf, off, rfl, _, cf1⟩ := HF11.out.at hlk
                                    obtain ⟨bf', off', hbf, _, cf2⟩ := HF11.out.at hlq
                                    cases hbf
                                    rw [vf_at fs k (by omega)] at cf1
                                    rw [vf_at fs q (by omega)] at cf2
                                    have HC : Hid (∀ d, Calls Trym.prog 16 #[.slice (some ⟨g1, 0, none⟩) m m, .slice (some ⟨g2, 0, none⟩) m m, .slice (some ⟨w10.heap.size, 0, none⟩) m m] (w11.drewN d).drew fun e w' => ∃ r, e = .returned (.float .f64 r) ∧ (FloatKind.f64.format.order r 0 == some Ordering.gt) = true ∧ ∃ q, w' = (w11.drewN d).drew.drewN q) := fun d => pair_hit h3 hlenz HR1.out HR2.out HTx.out hN d
                                    obtain ⟨r2, g3, g4⟩ := HBd.out.hit hkq hlq h1 hN (HI.out k hlk) (HI.out q hlq)
                                    have HBd' : Hid (BdAt ts zs fs m j k (q + 1) r2) := g4
                                    have HAn : Hid (anyB ts zs m j k (q + 1) = true) := anyB_hit hkq hN
                                    have hm1 := min_run (HI.out k hlk).1 (HI.out q hlq).1
                                    have y2 := fl_run (op := .add) g3
                                    obtain ⟨mn, hmn⟩ : ∃ mn, mn = Fl.fmin (fs.getD k 0) (fs.getD q 0) := ⟨_, rfl⟩
                                    obtain ⟨q1, hq1⟩ : ∃ q1, q1 = fs.getD k 0 := ⟨_, rfl⟩
                                    obtain ⟨q2, hq2⟩ : ∃ q2, q2 = fs.getD q 0 := ⟨_, rfl⟩
                                    rw [← hmn] at hm1 y2
                                    rw [← hq1] at cf1 hm1
                                    rw [← hq2] at cf2 hm1
                                    clear HBd hN hmn hq1 hq2 g3 g4
                                    go_wp2
                                    go_region_held3 (fun w' => w'.cell? ⟨w9.heap.size, k, none⟩ = some (.slice (some ⟨g1, 0, none⟩) m m) ∧ w'.cell? ⟨w9.heap.size, q, none⟩ = some (.slice (some ⟨g2, 0, none⟩) m m)) (exact ⟨cg1, cg2⟩) (first | (go_at_call 16; refine (HC.out d).mono ?_; rintro e w' ⟨r, rfl, hgt, y, rfl⟩))
                                    go_wp2
                                    go_region_held3 (fun w' => w'.cell? ⟨bf, off + k, none⟩ = some (.float .f64 q1) ∧ w'.cell? ⟨bf, off + q, none⟩ = some (.float .f64 q2)) (exact ⟨cf1, cf2⟩) (fail)
                                    go_wp2
                                    go_roundw
                                    case rel => exact ⟨q + 1, r2, d + 1 + y + 1, by omega, by omega, by go_num, rfl, by rw [HAn.out], HBd'.out, rfl⟩
                                    case measure => simp [intOf]; omega
                                · have hqn : q = j := by omega
                                  subst hqn
                                  have HBd : Hid (BdAt ts zs fs m q (k + 1) 0 b) := hBd.next
                                  have HAn : Hid (anyB ts zs m q (k + 1) 0 = anyB ts zs m q k q) := anyB_next ts zs m q k
                                  clear hBd
                                  go_wp2
                                  go_roundw
                                  case rel => exact ⟨k + 1, b, d, by omega, by go_num, rfl, by rw [HAn.out], HBd.out, rfl⟩
                                  case measure => simp [intOf]; omega
                            · have hkn : k = j := by omega
                              subst hkn
                              obtain ⟨p, f1, f2, f3, f4⟩ := end_law h1 HAt.out hBd
                              have y1 := fl_run (op := .mul) f1
                              obtain ⟨an, han⟩ : ∃ an, an = anyB ts zs m k k 0 := ⟨_, rfl⟩
                              rw [← han] at f3 ⊢
                              rw [f3] at f2
                              clear hBd f1 HAt han
                              go_wp2
                              go_ret
                              first | exact ⟨rfl, HBE.out d⟩ | exact ⟨congrArg (fun b => Ending.returned (Value.bool b)) f2, HBE.out d⟩
              · have hne : (nf : Int) ≠ (k : Int) := by omega
                go_wp2
                go_ret
                exact ⟨rfl, HB0.out⟩
        · go_wp2
          go_ret
          exact ⟨rfl, HB0.out⟩
      · go_wp2
        go_ret
        exact ⟨rfl, HB0.out⟩
    · go_wp2
      go_ret
      exact ⟨rfl, HB0.out⟩
end Go.Proofs.Qxb6609269aMods
