/-
  Seat b6609269aM: b1PairCloseness (16), b1TextNumbers (15).
-/
import Derived.Test.Qxb6609269aModsNear
namespace Go.Proofs.Qxb6609269aMods
open Go.RowKit

/-- cells j < n of block g hold f j -/
def RowF (w : World) (g n : Nat) (f : Nat → Value) : Prop := ∀ j, j < n → w.cell? ⟨g, j, none⟩ = some (f j)

/-- the pair that counts: index a holds x, index b holds y, in one text, at most 5 apart, not the same -/
def close (x y : Nat → Bool) (tx : Nat → Nat) (a b : Nat) : Prop := x a = true ∧ y b = true ∧ tx a = tx b ∧ a ≠ b ∧ a ≤ b + 5 ∧ b ≤ a + 5
def met (x y : Nat → Bool) (tx : Nat → Nat) (n k : Nat) : Prop := ∃ a b, a < k ∧ b < n ∧ close x y tx a b
/-- .. with the b below z (an integer) at index k -/
def metTo (x y : Nat → Bool) (tx : Nat → Nat) (n k : Nat) (z : Int) : Prop := met x y tx n k ∨ ∃ b : Nat, (b : Int) < z ∧ b < n ∧ close x y tx k b

theorem metTo_start {x y : Nat → Bool} {tx : Nat → Nat} {n k : Nat} : metTo x y tx n k ((k : Int) - 5) ↔ met x y tx n k := by
  constructor
  · rintro (h | ⟨b, h1, h2, h3⟩)
    · exact h
    · unfold close at h3; omega
  · exact .inl
theorem metTo_hit {x y : Nat → Bool} {tx : Nat → Nat} {n k b : Nat} (hb : b < n) (h : close x y tx k b) : metTo x y tx n k ((b : Int) + 1) := .inr ⟨b, by omega, hb, h⟩
theorem metTo_miss {x y : Nat → Bool} {tx : Nat → Nat} {n k : Nat} {z : Int} (h : ∀ b : Nat, (b : Int) = z → b < n → ¬ close x y tx k b) : metTo x y tx n k (z + 1) ↔ metTo x y tx n k z := by
  constructor
  · rintro (h1 | ⟨b, h1, h2, h3⟩)
    · exact .inl h1
    · by_cases e : (b : Int) = z
      · exact absurd h3 (h b e h2)
      · exact .inr ⟨b, by omega, h2, h3⟩
  · rintro (h1 | ⟨b, h1, h2, h3⟩)
    · exact .inl h1
    · exact .inr ⟨b, by omega, h2, h3⟩
theorem metTo_end {x y : Nat → Bool} {tx : Nat → Nat} {n k : Nat} {z : Int} (hz : (k : Int) + 5 < z) : met x y tx n (k + 1) ↔ metTo x y tx n k z := by
  constructor
  · rintro ⟨a, b, h1, h2, h3⟩
    by_cases e : a = k
    · subst e
      exact .inr ⟨b, by unfold close at h3; omega, h2, h3⟩
    · exact .inl ⟨a, b, by omega, h2, h3⟩
  · rintro (⟨a, b, h1, h2, h3⟩ | ⟨b, h1, h2, h3⟩)
    · exact ⟨a, b, by omega, h2, h3⟩
    · exact ⟨k, b, by omega, h2, h3⟩
theorem met_skip {x y : Nat → Bool} {tx : Nat → Nat} {n k : Nat} (h : x k = false) : met x y tx n (k + 1) ↔ met x y tx n k := by
  constructor
  · rintro ⟨a, b, h1, h2, h3⟩
    by_cases e : a = k
    · subst e; unfold close at h3; rw [h] at h3; exact absurd h3.1 (by decide)
    · exact ⟨a, b, by omega, h2, h3⟩
  · rintro ⟨a, b, h1, h2, h3⟩
    exact ⟨a, b, by omega, h2, h3⟩

theorem RowF.drewN {w : World} {g n : Nat} {f : Nat → Value} (h : RowF w g n f) (q : Nat) : RowF (w.drewN q) g n f := h

set_option maxHeartbeats 3200000 in
set_option maxRecDepth 100000 in
theorem pair_any (gx gy gt n : Nat) (x y : Nat → Bool) (tx : Nat → Nat) (w : World) (hn : n ≤ 4096) (hx : RowF w gx n (fun j => .bool (x j))) (hy : RowF w gy n (fun j => .bool (y j))) (ht : RowF w gt n (fun j => .int .i64 (tx j))) :
    Calls Trym.prog 16 #[.slice (some ⟨gx, 0, none⟩) n n, .slice (some ⟨gy, 0, none⟩) n n, .slice (some ⟨gt, 0, none⟩) n n] w fun e w' => ∃ cnt r, e = .returned (.float .f64 r) ∧ Fl.Sum cnt r ∧ (0 < cnt ↔ met x y tx n n) ∧ ∃ q, w' = w.drewN q := by
  have HX : Hid (RowF w gx n (fun j => .bool (x j))) := hx
  have HY : Hid (RowF w gy n (fun j => .bool (y j))) := hy
  have HT : Hid (RowF w gt n (fun j => .int .i64 (tx j))) := ht
  clear hx hy ht
  go_enter Trym.func16, Trym.ntmps16
  go_wp2
  go_loopw [7, 9] (fun s i wr => ∃ k cnt v q : Nat, k ≤ n ∧ i = .int .i64 k ∧ s = .float .f64 v ∧ Fl.Sum cnt v ∧ cnt ≤ k * 11 ∧ (0 < cnt ↔ met x y tx n k) ∧ wr = w.drewN q)
    (fun _ i _ => n - (intOf i).toNat)
  case atStart => exact ⟨0, 0, 0, 0, Nat.zero_le _, rfl, rfl, Fl.Sum.zero, by omega, ⟨fun h => by omega, fun ⟨a, _, h, _⟩ => by omega⟩, rfl⟩
  case round =>
    obtain ⟨k, cnt, v, q, hk, rfl, rfl, hS, hcnt, hiff, rfl⟩ := hrel
    by_cases hlt : k < n
    · have cx : (w.drewN q).cell? ⟨gx, k, none⟩ = some (.bool (x k)) := HX.out k hlt
      have HS : Hid (Fl.Sum cnt v) := hS
      have HC : Hid (cnt ≤ k * 11) := hcnt
      have HI : Hid (0 < cnt ↔ met x y tx n k) := hiff
      clear hS hcnt hiff
      cases hxk : x k with
      | false =>
        rw [hxk] at cx
        have HE : Hid (met x y tx n (k + 1) ↔ met x y tx n k) := met_skip hxk
        clear hxk
        go_wp2
        go_roundw
        case rel => exact ⟨k + 1, cnt, v, q, by omega, by go_num, rfl, HS.out, by have := HC.out; omega, HI.out.trans HE.out.symm, rfl⟩
        case measure => simp [intOf]; omega
      | true =>
        rw [hxk] at cx
        have HXK : Hid (x k = true) := hxk
        clear hxk
        go_wp2
        go_loopw [7, 10] (fun s i wr => ∃ (z : Int) (cnt v q : Nat), (k : Int) - 5 ≤ z ∧ z ≤ k + 6 ∧ i = .int .i64 z ∧ s = .float .f64 v ∧ Fl.Sum cnt v ∧ (cnt : Int) ≤ k * 11 + (z - (k - 5)) ∧ (0 < cnt ↔ metTo x y tx n k z) ∧ wr = w.drewN q)
          (fun _ i _ => ((k : Int) + 6 - intOf i).toNat)
        case atStart => exact ⟨(k : Int) - 5, cnt, v, q, by omega, by omega, rfl, rfl, HS.out, by have := HC.out; omega, HI.out.trans metTo_start.symm, rfl⟩
        case round =>
          clear HS HC HI cx
          obtain ⟨z, cnt, v, q, hz0, hz1, rfl, rfl, hS, hcnt, hiff, rfl⟩ := hrel
          have HS : Hid (Fl.Sum cnt v) := hS
          have HC : Hid ((cnt : Int) ≤ k * 11 + (z - (k - 5))) := hcnt
          have HI : Hid (0 < cnt ↔ metTo x y tx n k z) := hiff
          clear hS hcnt hiff
          by_cases hend : z ≤ k + 5
          · by_cases hneg : z < 0
            · have HM : Hid (metTo x y tx n k (z + 1) ↔ metTo x y tx n k z) := metTo_miss (fun b hb _ => by omega)
              have d1 : decide (z < 0) = true := by simpa using hneg
              go_wp2
              go_quiet (fail)
              go_wp2
              go_roundw
              case rel => exact ⟨z + 1, cnt, v, q + nq, by omega, by omega, rfl, rfl, HS.out, by have := HC.out; omega, HI.out.trans HM.out.symm, rfl⟩
              case measure => simp [intOf]; omega
            · obtain ⟨b, rfl⟩ : ∃ b : Nat, z = b := ⟨z.toNat, by omega⟩
              have d1 : decide ((b : Int) < 0) = false := decide_eq_false (by omega)
              by_cases hbig : n ≤ b
              · have HM : Hid (metTo x y tx n k ((b : Int) + 1) ↔ metTo x y tx n k b) := metTo_miss (fun b' hb hb2 => by omega)
                have d2 : decide ((n : Int) ≤ (b : Int)) = true := by simp; omega
                have d2' : decide (n ≤ b) = true := by simpa using hbig
                go_wp2
                go_quiet (fail)
                go_wp2
                go_roundw
                case rel => exact ⟨(b : Int) + 1, cnt, v, q + nq, by omega, by omega, rfl, rfl, HS.out, by have := HC.out; omega, HI.out.trans HM.out.symm, rfl⟩
                case measure => simp [intOf]; omega
              · have hbn : b < n := by omega
                have d2 : decide ((n : Int) ≤ (b : Int)) = false := by simp; omega
                have d2' : decide (n ≤ b) = false := by simp; omega
                by_cases heq : b = k
                · subst heq
                  have HM : Hid (metTo x y tx n b ((b : Int) + 1) ↔ metTo x y tx n b b) := metTo_miss (fun b' hb hb2 h => h.2.2.2.1 (by omega))
                  go_wp2
                  go_quiet (fail)
                  go_wp2
                  go_roundw
                  case rel => exact ⟨(b : Int) + 1, cnt, v, q + nq, by omega, by omega, rfl, rfl, HS.out, by have := HC.out; omega, HI.out.trans HM.out.symm, rfl⟩
                  case measure => simp [intOf]; omega
                · have d3 : ((b : Int) == (k : Int)) = false := by simp; omega
                  have d3' : (b == k) = false := by simp; omega
                  have i1 : (b : Int) < (n : Int) := by omega
                  have i2 : (k : Int) < (n : Int) := by omega
                  have cy : w.cell? ⟨gy, b, none⟩ = some (.bool (y b)) := HY.out b hbn
                  cases hyb : y b with
                  | false =>
                    rw [hyb] at cy
                    have HM : Hid (metTo x y tx n k ((b : Int) + 1) ↔ metTo x y tx n k b) := metTo_miss (fun b' hb hb2 h => by
                      obtain rfl : b' = b := by omega
                      have := h.2.1
                      rw [hyb] at this
                      exact absurd this (by decide))
                    clear hyb
                    go_wp2
                    go_quiet (fail)
                    go_wp2
                    go_roundw
                    case rel => exact ⟨(b : Int) + 1, cnt, v, q + nq, by omega, by omega, rfl, rfl, HS.out, by have := HC.out; omega, HI.out.trans HM.out.symm, rfl⟩
                    case measure => simp [intOf]; omega
                  | true =>
                    rw [hyb] at cy
                    have HYB : Hid (y b = true) := hyb
                    clear hyb
                    have ct1 : w.cell? ⟨gt, b, none⟩ = some (.int .i64 (tx b)) := HT.out b hbn
                    have ct2 : w.cell? ⟨gt, k, none⟩ = some (.int .i64 (tx k)) := HT.out k hlt
                    obtain ⟨tb, htb⟩ : ∃ tb, tb = tx b := ⟨_, rfl⟩
                    obtain ⟨tk, htk⟩ : ∃ tk, tk = tx k := ⟨_, rfl⟩
                    have HTB : Hid (tb = tx b) := htb
                    have HTK : Hid (tk = tx k) := htk
                    rw [← htb] at ct1
                    rw [← htk] at ct2
                    clear htb htk
                    by_cases htx : tb = tk
                    · have HM : Hid (metTo x y tx n k ((b : Int) + 1)) := metTo_hit hbn ⟨HXK.out, HYB.out, by rw [← HTB.out, ← HTK.out, htx], by omega, by omega, by omega⟩
                      have HB : Hid (cnt ≤ 67108864) := by
                        have := HC.out
                        show cnt ≤ 67108864
                        omega
                      clear HTB HTK
                      subst htx
                      by_cases hgt : k < b
                      · obtain ⟨cv, c, r, g1, g2, g3, g4⟩ := one_more ((b : Int) - k) (b - k) (by omega) (by omega) (by omega) HS.out HB.out
                        have d5 : decide ((b : Int) - (k : Int) < 0) = false := by simp; omega
                        go_wp2
                        go_quiet (fail)
                        go_wp2
                        go_roundw
                        case rel => exact ⟨(b : Int) + 1, cnt + 1, r, q + nq, by omega, by omega, rfl, rfl, g4.out, by have := HC.out; omega, ⟨fun _ => HM.out, fun _ => by omega⟩, rfl⟩
                        case measure => simp [intOf]; omega
                      · obtain ⟨cv, c, r, g1, g2, g3, g4⟩ := one_more (-((b : Int) - k)) (k - b) (by omega) (by omega) (by omega) HS.out HB.out
                        go_wp2
                        go_quiet (fail)
                        go_wp2
                        go_roundw
                        case rel => exact ⟨(b : Int) + 1, cnt + 1, r, q + nq, by omega, by omega, rfl, rfl, g4.out, by have := HC.out; omega, ⟨fun _ => HM.out, fun _ => by omega⟩, rfl⟩
                        case measure => simp [intOf]; omega
                    · have d4 : ((tb : Int) != (tk : Int)) = true := by rw [bne_iff_ne]; omega
                      have d4' : (tb != tk) = true := by rw [bne_iff_ne]; omega
                      have HM : Hid (metTo x y tx n k ((b : Int) + 1) ↔ metTo x y tx n k b) := metTo_miss (fun b' hb hb2 h => by
                        obtain rfl : b' = b := by omega
                        exact htx (by rw [HTB.out, HTK.out]; exact h.2.2.1.symm))
                      have HNE : Hid (¬ tb = tk) := htx
                      clear htx HTB HTK
                      go_wp2
                      go_quiet (fail)
                      go_wp2
                      go_roundw
                      case rel => exact ⟨(b : Int) + 1, cnt, v, q + nq, by omega, by omega, rfl, rfl, HS.out, by have := HC.out; omega, HI.out.trans HM.out.symm, rfl⟩
                      case measure => simp [intOf]; omega
          · obtain rfl : z = (k : Int) + 6 := by omega
            have HE : Hid (met x y tx n (k + 1) ↔ metTo x y tx n k ((k : Int) + 6)) := metTo_end (by omega)
            go_wp2
            go_roundw
            case rel => exact ⟨k + 1, cnt, v, q, by omega, by go_num, rfl, HS.out, by have := HC.out; omega, HI.out.trans HE.out.symm, rfl⟩
            case measure => simp [intOf]; omega
    · go_wp2
      go_ret
      obtain rfl : k = n := by omega
      exact ⟨cnt, v, rfl, hS, hiff, q, rfl⟩
end Go.Proofs.Qxb6609269aMods
