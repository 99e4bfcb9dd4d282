/-
  Seat b6000764aM: the law's own walk (3).
-/
import Derived.Test.Qxb6000764aModsLocked
namespace Go.Proofs.Qxb6000764aMods
open Go.RowKit Go.Maps

theorem pre_len (ls zs : List Int) : (pre ls zs).length ≤ zs.length := (List.takeWhile_sublist _).length_le
theorem pre_at (ls : List Int) : ∀ (zs : List Int) (i : Nat), i < (pre ls zs).length → (pre ls zs).getD i 0 = zs.getD i 0 ∧ heldB ls (zs.getD i 0) = true
  | [], i, h => by simp [pre] at h
  | z :: r, i, h => by
    by_cases hz : heldB ls z = true
    · have e : pre ls (z :: r) = z :: pre ls r := by simp [pre, hz]
      rw [e] at h ⊢
      cases i with
      | zero => exact ⟨rfl, hz⟩
      | succ i =>
        have := pre_at ls r i (by simpa using h)
        simpa using this
    · have e : pre ls (z :: r) = [] := by simp [pre, hz]
      rw [e] at h
      simp at h
theorem pre_end (ls : List Int) : ∀ (zs : List Int), (pre ls zs).length < zs.length → heldB ls (zs.getD (pre ls zs).length 0) = false
  | [], h => by simp at h
  | z :: r, h => by
    by_cases hz : heldB ls z = true
    · have e : pre ls (z :: r) = z :: pre ls r := by simp [pre, hz]
      rw [e] at h ⊢
      have := pre_end ls r (by simpa using h)
      simpa using this
    · have e : pre ls (z :: r) = [] := by simp [pre, hz]
      rw [e]
      simpa using hz

theorem Lies.alloc {w : World} {a : Option Addr} {n : Nat} {zs : List Int} (h : Lies w a n zs) (o : Obj) : Lies (w.alloc o) a n zs := h.below ((Below.refl _ _).alloc (Nat.le_refl _) o)

set_option maxHeartbeats 1600000 in
set_option maxRecDepth 100000 in
theorem top_any (a0 : Option Addr) (n c0 : Nat) (zs : List Int) (a1 : Option Addr) (m c1 : Nat) (ls : List Int) (w : World) (hn : n ≤ maxLen) (hm : m ≤ maxLen)
    (h0 : a0 = none → n = 0 ∧ c0 = 0) (h1 : a1 = none → m = 0 ∧ c1 = 0) (hz : Lies w a0 n zs) (hl : Lies w a1 m ls) :
    Calls Trym.prog 3 #[.slice a0 n c0, .slice a1 m c1] w fun e w' => e = .returned (.bool true) ∧ Below w.heap.size w w' := by
  cases hf : fitB n m with
  | false =>
    clear hz hl h0 h1
    go_enter Trym.func3, Trym.ntmps3
    go_wp2_with fail
    refine (bytes_any a0 n c0 a1 m c1 w hn hm).mono ?_
    rw [hf]
    rintro e w' ⟨rfl, rfl⟩
    go_wp2
    go_ret
    exact ⟨rfl, Below.refl _ _⟩
  | true =>
    have hnm : n + m ≤ 1048576 := by simpa [fitB] using hf
    by_cases hb1 : n ≤ 131072 ∧ m ≤ 131072 ∧ 8 * n + 8 * m ≤ 1048576
    · obtain ⟨hb1, hb2, hb3⟩ := hb1
      have HF : Hid (fitB n m = true) := hf
      have HN : Hid (n ≤ maxLen) := hn
      have HM : Hid (m ≤ maxLen) := hm
      clear hf hn hm
      go_enter Trym.func3, Trym.ntmps3
      go_wp2_with fail
      refine (bytes_any a0 n c0 a1 m c1 w HN.out HM.out).mono ?_
      rw [HF.out]
      rintro e w' ⟨rfl, rfl⟩
      go_wp2_with fail
      refine (copy_any a0 n c0 zs _ (by omega) h0 hz).mono ?_
      rintro e w1 ⟨b0, rfl, hz1, hbel1⟩
      go_wp2_with fail
      refine (copy_any a1 m c1 ls _ (by omega) h1 (hl.below hbel1)).mono ?_
      rintro e w2 ⟨b1, rfl, hl2, hbel2⟩
      have hz2 := hz1.below hbel2
      have hbel := hbel1.trans (hbel2.mono hbel1.size)
      clear hz1 hbel1 hbel2 hz hl h0 h1
      go_wp2_with fail
      refine (zz_locked_any w2.heap.size b0 n n zs b1 m m ls _ (by omega) (by omega) (by simp) (by simp) (hz2.alloc _) (hl2.alloc _)).mono ?_
      rintro e w3 ⟨ag, cg, rfl, hg3, hbel3⟩
      have hz3 := (hz2.alloc _).below hbel3
      have hl3 := (hl2.alloc _).below hbel3
      have hbelow : Below w'.heap.size w' w3 := (hbel.alloc hbel.size _).trans (hbel3.mono (Nat.le_trans hbel.size (by simp)))
      have hzlen : zs.length = n := hz3.1
      have HA : Hid (∀ i, i < (pre ls zs).length → (pre ls zs).getD i 0 = zs.getD i 0 ∧ heldB ls (zs.getD i 0) = true) := pre_at ls zs
      have HE : Hid ((pre ls zs).length < zs.length → heldB ls (zs.getD (pre ls zs).length 0) = false) := pre_end ls zs
      have hle : (pre ls zs).length ≤ n := by rw [← hzlen]; exact pre_len ls zs
      obtain ⟨gl, hgl⟩ : ∃ gl, gl = (pre ls zs).length := ⟨_, rfl⟩
      obtain ⟨gs, hgs⟩ : ∃ gs, gs = pre ls zs := ⟨_, rfl⟩
      rw [← hgl] at hg3 HA HE hle ⊢
      rw [← hgs] at hg3 HA
      clear hbel hbel3 hz2 hl2 hgl hgs
      have hng : ¬ n < gl := by omega
      have hng2 : decide (n < gl) = false := by simp; omega
      go_wp2
      go_loopw [6] (fun i wr => ∃ k : Nat, k ≤ gl ∧ i = .int .i64 k ∧ Below w3.heap.size w3 wr) (fun i _ => gl - (intOf i).toNat)
      case atStart => exact ⟨0, Nat.zero_le _, rfl, Below.refl _ _⟩
      case round =>
        obtain ⟨k, hk, rfl, hb⟩ := hrel
        have hgr := hg3.below hb
        have hzr := hz3.below hb
        have hlr := hl3.below hb
        by_cases hlt : k < gl
        · obtain ⟨bg, og, rfl, _, hcg⟩ := hgr.2.2 (by omega)
          obtain ⟨bz, oz, rfl, _, hcz⟩ := hzr.2.2 (by omega)
          have cg := hcg k hlt
          have cz := hcz k (by omega)
          have hh := HA.out k hlt
          rw [hh.1] at cg
          have HH : Hid (heldB ls (zs.getD k 0) = true) := hh.2
          obtain ⟨y, hy⟩ : ∃ y, y = zs.getD k 0 := ⟨_, rfl⟩
          rw [← hy] at cg cz HH
          have i1 : (k : Int) < (gl : Int) := by omega
          have i2 : (k : Int) < (n : Int) := by omega
          clear hh hy hgr hzr hcg hcz hg3 hz3 hl3
          go_wp2
          go_quiet (fail)
          go_wp2_with fail
          refine (held_any b1 m m ls y _ (by omega) (hlr.below (below_drewN (Below.refl _ _) nq))).mono ?_
          rw [HH.out]
          rintro e w4 ⟨rfl, rfl⟩
          go_wp2
          go_roundw
          case rel =>
            have REL : ∃ k' : Nat, k' ≤ gl ∧ Value.int .i64 ((k : Int) + 1) = .int .i64 k' ∧ Below w3.heap.size w3 (wr.drewN nq) := ⟨k + 1, by omega, by go_num, below_drewN hb nq⟩
            first | exact REL | ((repeat apply Exists.intro); exact ⟨REL, rfl⟩)
          case measure => simp [intOf]; omega
        · obtain rfl : k = gl := by omega
          have hfin : Below w'.heap.size w' wr := hbelow.trans (hb.mono hbelow.size)
          by_cases hlt2 : k < n
          · obtain ⟨bz, oz, rfl, _, hcz⟩ := hzr.2.2 (by omega)
            have cz := hcz k hlt2
            have HH : Hid (heldB ls (zs.getD k 0) = false) := HE.out (by omega)
            obtain ⟨y, hy⟩ : ∃ y, y = zs.getD k 0 := ⟨_, rfl⟩
            rw [← hy] at cz HH
            have i2 : (k : Int) < (n : Int) := by omega
            clear hy hgr hzr hcz hg3 hz3 hl3
            go_wp2_with fail
            refine (held_any b1 m m ls y _ (by omega) hlr).mono ?_
            rw [HH.out]
            rintro e w4 ⟨rfl, rfl⟩
            go_wp2
            go_ret
            exact ⟨rfl, hfin⟩
          · have i2 : ¬ (k : Int) < (n : Int) := by omega
            clear hgr hzr hg3 hz3 hl3 hlr
            go_wp2
            go_ret
            exact ⟨rfl, hfin⟩
    · have HF : Hid (fitB n m = true) := hf
      have HN : Hid (n ≤ maxLen) := hn
      have HM : Hid (m ≤ maxLen) := hm
      clear hf hn hm hz hl h0 h1
      rcases (show 131072 < n ∨ (n ≤ 131072 ∧ 131072 < m) ∨ (n ≤ 131072 ∧ m ≤ 131072 ∧ 1048576 < 8 * n + 8 * m) from by omega) with h | ⟨h, h'⟩ | ⟨h, h', h''⟩
      all_goals
        clear hb1
        go_enter Trym.func3, Trym.ntmps3
        go_wp2_with fail
        refine (bytes_any a0 n c0 a1 m c1 w HN.out HM.out).mono ?_
        rw [HF.out]
        rintro e w' ⟨rfl, rfl⟩
        go_wp2
        go_ret
        exact ⟨rfl, Below.refl _ _⟩
end Go.Proofs.Qxb6000764aMods
