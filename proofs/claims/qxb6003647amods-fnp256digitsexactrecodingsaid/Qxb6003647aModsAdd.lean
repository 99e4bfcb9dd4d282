/-
  Seat b6003647aM: zzAddShifted (8) by its contract.
-/
import Derived.Test.Qxb6003647aModsShim
namespace Go.Proofs.Qxb6003647aMods
open Go.RowKit

theorem add_round {wr : World} {g p : Nat} {f : Nat → Int} {x v : Int} (hA : Arr wr g 26 40 f) (hv : v = (f p + x) % 256) :
    Arr (wr.setCell ⟨g, p, none⟩ (.int .i64 v)) g 26 40 (Pl.put f p x) :=
  hA.set p v (by simp [Pl.put, hv]) (fun j hj => by simp [Pl.put, hj])

theorem grown_set (w : World) {w1 : World} {g : Nat} (h : w.grownBy w1 (some g)) (o : Nat) (v : Value) : w.grownBy (w1.setCell ⟨g, o, none⟩ v) (some g) :=
  ⟨h.os, h.tape, h.output, by simpa [World.setCell] using h.size, fun k hk hne => (heap_setCell_other w1 ⟨g, o, none⟩ k v (fun e => hne (by rw [e]))).trans (h.block k hk hne)⟩

set_option maxHeartbeats 800000 in
set_option maxRecDepth 100000 in
theorem add_any (g : Nat) (f : Nat → Int) (v : Int) (s : Nat) (w : World) (hv0 : 0 ≤ v) (hv1 : v ≤ 255) (hs : s ≤ 252) (hA : Arr w g 26 40 f) (hL : Pl.Lim f) (hT : Pl.wt f + v * 2 ^ s < 256 ^ 40) :
    Calls Trym.prog 8 #[.pointer (some ⟨g, 0, none⟩), .int .i64 v, .int .i64 s] w fun e w' => e = .returned (.tuple #[]) ∧ ∃ f', Arr w' g 26 40 f' ∧ Pl.Lim f' ∧ Pl.wt f' = Pl.wt f + v * 2 ^ s ∧ w.grownBy w' (some g) := by
  have HT : Hid (Pl.wt f + v * 2 ^ s < 256 ^ 40) := hT
  have hb := Pl.shift_bd v (s % 8) (by omega) hv0 hv1
  obtain ⟨hb0, hb1⟩ := hb
  clear hT
  go_enter Trym.func8, Trym.ntmps8
  go_wp2
  have HP : Hid _ := Pl.at_place v s
  obtain ⟨x0, hx0⟩ : ∃ x0, x0 = v * 2 ^ (s % 8) := ⟨_, rfl⟩
  rw [← hx0] at hb0 hb1 HP ⊢
  obtain ⟨T, hTe⟩ : ∃ T, T = Pl.wt f + v * 2 ^ s := ⟨_, rfl⟩
  have HTe : Hid (T = Pl.wt f + v * 2 ^ s) := hTe
  clear hx0 hTe
  go_loopw [1, 6] (fun x i wr => ∃ (p : Nat) (y : Int) (h : Nat → Int), p ≤ 40 ∧ i = .int .i64 p ∧ x = .int .i64 y ∧ 0 ≤ y ∧ y ≤ 65535 ∧ Arr wr g 26 40 h ∧ Pl.Lim h ∧ Pl.wt h + y * 256 ^ p = T ∧ w.grownBy wr (some g))
    (fun _ i _ => 40 - (intOf i).toNat)
  case atStart => exact ⟨s / 8, x0, f, by omega, by go_num, rfl, hb0, by omega, hA, hL, by rw [HP.out, HTe.out], World.grownBy.refl _ _⟩
  case round =>
    clear hA hL hb0 hb1 HP
    obtain ⟨p, y, h, hp, rfl, rfl, hy0, hy1, hA, hL, hw, hg⟩ := hrel
    have HW : Hid (Pl.wt h + y * 256 ^ p = T) := hw
    clear hw
    by_cases hy : y = 0
    · subst hy
      have HE : Hid (Pl.wt h = Pl.wt f + v * 2 ^ s) := by
        show _ = _
        have := HW.out
        rw [Int.zero_mul, Int.add_zero] at this
        rw [this, HTe.out]
      go_wp2
      go_end0
      exact ⟨rfl, h, hA, hL, HE.out, hg⟩
    · have hyb : (y != 0) = true := by rw [bne_iff_ne]; exact hy
      by_cases hlt : p < 40
      · have ca := hA.cell hlt
        have fa := hA.free p
        have hl := hL p
        have HA : Hid (∀ u, u = (h p + y) % 256 → Arr (wr.setCell ⟨g, p, none⟩ (.int .i64 u)) g 26 40 (Pl.put h p y)) := fun u hu => add_round hA hu
        have HL : Hid (Pl.Lim (Pl.put h p y)) := Pl.put_lim hL p y
        have HQ : Hid (Pl.wt (Pl.put h p y) + (h p + y) / 256 * 256 ^ (p + 1) = T) := by
          show _ = _
          rw [Pl.put_wt h p y hlt]; exact HW.out
        obtain ⟨z, hz⟩ : ∃ z, z = h p := ⟨_, rfl⟩
        rw [← hz] at ca hl HA HQ
        obtain ⟨hl0, hl1⟩ := hl
        have HG : Hid (w.grownBy wr (some g)) := hg
        clear hA hL hz hy hg
        go_wp2
        go_roundw
        case rel => exact ⟨p + 1, (z + y) / 256, Pl.put h p y, by omega, by go_num, rfl, by omega, by omega, HA.out _ (by rw [i64_and255]), HL.out, HQ.out, grown_set w HG.out _ _⟩
        case measure => simp [intOf]; omega
      · exfalso
        obtain rfl : p = 40 := by omega
        exact hy (Pl.no_more hL hy0 HW.out (by rw [HTe.out]; exact HT.out))
end Go.Proofs.Qxb6003647aMods
