/-
  Seat b6000764aM: the small callees, each by its contract: zzBytes (8), zzCopy (9), zzHeld (11).
-/
import Derived.Test.Qxb6000764aModsParts
namespace Go.Proofs.Qxb6000764aMods
open Go.RowKit Go.Maps

def fitB (n m : Nat) : Bool := decide (n + m ≤ 1048576)

theorem bytes_any (a0 : Option Addr) (n c0 : Nat) (a1 : Option Addr) (m c1 : Nat) (w : World) (hn : n ≤ maxLen) (hm : m ≤ maxLen) :
    Calls Trym.prog 8 #[.slice a0 n c0, .slice a1 m c1] w fun e w' => e = .returned (.bool (fitB n m)) ∧ w' = w := by
  unfold maxLen at hn hm
  by_cases h1 : n ≤ 1048576
  · by_cases h2 : m ≤ 1048576
    · by_cases h3 : n + m ≤ 1048576
      · have hf : fitB n m = true := by simp [fitB, h3]
        rw [hf]; clear hf
        go_enter Trym.func8, Trym.ntmps8
        go_wp2
        go_ret
        exact ⟨rfl, rfl⟩
      · have hf : fitB n m = false := by simp [fitB]; omega
        rw [hf]; clear hf
        go_enter Trym.func8, Trym.ntmps8
        go_wp2
        go_ret
        exact ⟨rfl, rfl⟩
    · have hf : fitB n m = false := by simp [fitB]; omega
      rw [hf]; clear hf
      go_enter Trym.func8, Trym.ntmps8
      go_wp2
      go_ret
      exact ⟨rfl, rfl⟩
  · have hf : fitB n m = false := by simp [fitB]; omega
    rw [hf]; clear hf
    go_enter Trym.func8, Trym.ntmps8
    go_wp2
    go_ret
    exact ⟨rfl, rfl⟩

set_option maxRecDepth 100000 in
theorem held_any (a : Option Addr) (n c : Nat) (zs : List Int) (x : Int) (w : World) (hn : n ≤ 1048576) (hz : Lies w a n zs) :
    Calls Trym.prog 11 #[.int .i64 x, .slice a n c] w fun e w' => e = .returned (.bool (heldB zs x)) ∧ w' = w := by
  obtain ⟨hlen, _, hpos⟩ := hz
  by_cases h0 : n = 0
  · subst h0
    have : zs = [] := List.eq_nil_of_length_eq_zero hlen
    subst this
    clear hpos
    go_enter Trym.func11, Trym.ntmps11
    go_wp2
    refine wp_loop_rounds 1 ?_
    rw [rounds_succ]
    go_wp2
    go_ret
    exact ⟨rfl, rfl⟩
  · obtain ⟨b, off, rfl, _, hc⟩ := hpos (by omega)
    go_enter Trym.func11, Trym.ntmps11
    go_wp2
    go_loop [5] (fun i => ∃ k : Nat, k ≤ n ∧ i = .int .i64 k ∧ heldB (zs.take k) x = false) (fun i => n - (intOf i).toNat)
    case atStart => exact ⟨0, Nat.zero_le _, rfl, rfl⟩
    case round =>
      obtain ⟨k, hk, rfl, hno⟩ := hrel
      by_cases hlt : k < n
      · have hcx := hc k hlt
        have HS : Hid (heldB (zs.take (k + 1)) x = (heldB (zs.take k) x || zs.getD k 0 == x)) := by
          show _ = _
          rw [take_snoc zs k (by omega), heldB_snoc]
        have HM : Hid (zs.getD k 0 ∈ zs) := by
          show _ ∈ _
          have : k < zs.length := by omega
          simp [List.getElem?_eq_getElem this]
        have HN : Hid (heldB (zs.take k) x = false) := hno
        obtain ⟨y, hy⟩ : ∃ y, y = zs.getD k 0 := ⟨_, rfl⟩
        rw [← hy] at hcx HS HM
        clear hno hy hc
        by_cases hyx : y = x
        · have hb : (y == x) = true := by simp [hyx]
          have HF : Hid (heldB zs x = true) := by
            show heldB zs x = true
            rw [← hyx]; exact heldB_mem HM.out
          clear hyx
          go_wp2
          go_ret
          exact ⟨by rw [HF.out]; rfl, rfl⟩
        · have hb : (y == x) = false := by simp [hyx]
          have HX : Hid ((y == x) = false) := hb
          clear hyx
          go_wp2
          go_round
          case rel => exact ⟨k + 1, by omega, by go_num, by rw [HS.out, HN.out, HX.out]; rfl⟩
          case measure => simp [intOf]; omega
      · have hkn : k = n := by omega
        have HF : Hid (heldB zs x = false) := by
          show heldB zs x = false
          rw [← hno, hkn, List.take_of_length_le (by omega)]
        clear hno
        go_wp2
        go_ret
        exact ⟨by rw [HF.out]; rfl, rfl⟩
end Go.Proofs.Qxb6000764aMods
