/-
  Seat b6609269aM: nearSum (23).
-/
import Derived.Test.Qxb6609269aModsSmall
namespace Go.Proofs.Qxb6609269aMods
open Go.RowKit

def vl (zs : List Int) : List Value := zs.map (Value.int .i64)
theorem vl_len (zs : List Int) : (vl zs).length = zs.length := by simp [vl]
theorem vl_at (zs : List Int) (j : Nat) (h : j < zs.length) : (vl zs)[j]? = some (.int .i64 (zs.getD j 0)) := by simp [vl, List.getElem?_eq_getElem h]

/-- two places that count as near -/
def nr (p q : Int) : Prop := p ≠ q ∧ p - 5 ≤ q ∧ q ≤ p + 5
/-- ascending, each between 0 and 2^20 -/
def Asc (zs : List Int) : Prop := (∀ i j, i ≤ j → j < zs.length → zs.getD i 0 ≤ zs.getD j 0) ∧ ∀ i, 0 ≤ zs.getD i 0 ∧ zs.getD i 0 ≤ 1048576

def found (ps qs : List Int) (k : Nat) : Prop := ∃ i j, i < k ∧ j < qs.length ∧ nr (ps.getD i 0) (qs.getD j 0)
def seen (ps qs : List Int) (k f t : Nat) : Prop := found ps qs k ∨ ∃ j, f ≤ j ∧ j < f + t ∧ nr (ps.getD k 0) (qs.getD j 0)

theorem seen_zero (ps qs : List Int) (k f : Nat) : seen ps qs k f 0 ↔ found ps qs k := by
  constructor
  · rintro (h | ⟨j, h1, h2, _⟩)
    · exact h
    · omega
  · exact .inl
theorem seen_hit {ps qs : List Int} {k f t : Nat} (h : nr (ps.getD k 0) (qs.getD (f + t) 0)) : seen ps qs k f (t + 1) := .inr ⟨f + t, by omega, by omega, h⟩
theorem seen_miss {ps qs : List Int} {k f t : Nat} (h : ¬ nr (ps.getD k 0) (qs.getD (f + t) 0)) : seen ps qs k f (t + 1) ↔ seen ps qs k f t := by
  constructor
  · rintro (h1 | ⟨j, h1, h2, h3⟩)
    · exact .inl h1
    · by_cases e : j = f + t
      · subst e; exact absurd h3 h
      · exact .inr ⟨j, h1, by omega, h3⟩
  · rintro (h1 | ⟨j, h1, h2, h3⟩)
    · exact .inl h1
    · exact .inr ⟨j, h1, by omega, h3⟩
theorem seen_end {ps qs : List Int} {k f t : Nat} (hlo : ∀ j, j < f → qs.getD j 0 < ps.getD k 0 - 5) (hhi : ∀ j, f + t ≤ j → j < qs.length → ps.getD k 0 + 5 < qs.getD j 0) (hft : f + t ≤ qs.length) :
    found ps qs (k + 1) ↔ seen ps qs k f t := by
  constructor
  · rintro ⟨i, j, h1, h2, h3⟩
    by_cases e : i = k
    · subst e
      refine .inr ⟨j, ?_, ?_, h3⟩
      · refine Nat.le_of_not_lt fun h => ?_
        have := hlo j h
        unfold nr at h3; omega
      · refine Nat.lt_of_not_le fun h => ?_
        have := hhi j h h2
        unfold nr at h3; omega
    · exact .inl ⟨i, j, by omega, h2, h3⟩
  · rintro (⟨i, j, h1, h2, h3⟩ | ⟨j, h1, h2, h3⟩)
    · exact ⟨i, j, by omega, h2, h3⟩
    · exact ⟨k, j, by omega, by omega, h3⟩

theorem conv_sq (z : Int) (d : Nat) (h5 : d ≤ 5) (hz : z = d) : floatOfInt .f64 (wrap64 (z * z)) = Fl.conv (d * d) := by
  subst hz
  have e : wrap64 ((d : Int) * (d : Int)) = ((d * d : Nat) : Int) := by
    match d, h5 with
    | 0, _ | 1, _ | 2, _ | 3, _ | 4, _ | 5, _ => unfold wrap64; omega
  rw [e, conv_eq]
/-- one term more: what the walk wants of it -/
theorem one_more {cnt x : Nat} (z : Int) (d : Nat) (h1 : 1 ≤ d) (h5 : d ≤ 5) (hz : z = d) (hS : Fl.Sum cnt x) (hc : cnt ≤ 67108864) :
    ∃ cv c r : Nat, floatOfInt .f64 (wrap64 (z * z)) = cv ∧ (∀ w, (binOp .quo 27 (.float .f64 4607182418800017408) (.float .f64 cv)).run Trym.prog w = .ok (.float .f64 c) w) ∧ (∀ w, (binOp .add 27 (.float .f64 x) (.float .f64 c)).run Trym.prog w = .ok (.float .f64 r) w) ∧ Hid (Fl.Sum (cnt + 1) r) := by
  obtain ⟨c, h2, h3, h4, h5'⟩ := Fl.recip d h1 h5
  obtain ⟨r, h6, h7⟩ := hS.step hc h3 h4 h5'
  exact ⟨_, c, r, conv_sq z d h5 hz, fl_run (op := .quo) h2, fl_run (op := .add) h6, h7⟩

set_option maxHeartbeats 3200000 in
set_option maxRecDepth 100000 in
theorem near_any (b1 o1 n1 c1 b2 o2 n2 c2 : Nat) (ps qs : List Int) (w : World) (hn1 : n1 ≤ 4096) (hn2 : n2 ≤ 4096) (h2c : n2 ≤ c2) (h20 : 0 < n2) (hc2 : c2 ≤ maxLen)
    (l1 : ps.length = n1) (l2 : qs.length = n2) (a1 : Asc ps) (a2 : Asc qs)
    (z1 : ∀ j, j < n1 → w.cell? ⟨b1, o1 + j, none⟩ = some (.int .i64 (ps.getD j 0))) (z2 : ∀ j, j < n2 → w.cell? ⟨b2, o2 + j, none⟩ = some (.int .i64 (qs.getD j 0))) :
    Calls Trym.prog 23 #[.slice (some ⟨b1, o1, none⟩) n1 c1, .slice (some ⟨b2, o2, none⟩) n2 c2] w fun e w' => ∃ cnt r, e = .returned (.float .f64 r) ∧ Fl.Sum cnt r ∧ cnt ≤ n1 * n2 ∧ (0 < cnt ↔ found ps qs n1) ∧ w' = w := by
  have Z1 : Hid (∀ j, j < n1 → w.cell? ⟨b1, o1 + j, none⟩ = some (.int .i64 (ps.getD j 0))) := z1
  have Z2 : Hid (∀ j, j < n2 → w.cell? ⟨b2, o2 + j, none⟩ = some (.int .i64 (qs.getD j 0))) := z2
  have A1 : Hid (Asc ps) := a1
  have A2 : Hid (Asc qs) := a2
  have L1 : Hid (ps.length = n1) := l1
  have L2 : Hid (qs.length = n2) := l2
  unfold maxLen at hc2
  clear z1 z2 a1 a2 l1 l2
  go_enter Trym.func23, Trym.ntmps23
  go_wp2
  go_loop [5, 6, 14] (fun s f i => ∃ k m cnt x : Nat, k ≤ n1 ∧ m ≤ n2 ∧ i = .int .i64 k ∧ f = .int .i64 m ∧ s = .float .f64 x ∧ Fl.Sum cnt x ∧ cnt ≤ k * n2 ∧ (0 < cnt ↔ found ps qs k) ∧ (∀ j, j < m → ∀ i, k ≤ i → i < n1 → qs.getD j 0 < ps.getD i 0 - 5))
    (fun _ _ i => n1 - (intOf i).toNat)
  case atStart => exact ⟨0, 0, 0, 0, Nat.zero_le _, Nat.zero_le _, rfl, rfl, rfl, Fl.Sum.zero, by omega, ⟨fun h => by omega, fun ⟨i, _, h, _⟩ => by omega⟩, fun j hj => by omega⟩
  case round =>
    obtain ⟨k, m, cnt, x, hk, hm, rfl, rfl, rfl, hS, hcnt, hiff, hlow⟩ := hrel
    by_cases hlt : k < n1
    · have cp := Z1.out k hlt
      have pb := A1.out.2 k
      have HS : Hid (Fl.Sum cnt x) := hS
      have HI : Hid (0 < cnt ↔ found ps qs k) := hiff
      have HLow : Hid (∀ j, j < m → qs.getD j 0 < ps.getD k 0 - 5) := fun j hj => hlow j hj k (Nat.le_refl _) hlt
      have HC : Hid (cnt ≤ k * n2) := hcnt
      obtain ⟨p, hp⟩ : ∃ p, p = ps.getD k 0 := ⟨_, rfl⟩
      have HP : Hid (p = ps.getD k 0) := hp
      rw [← hp] at cp pb
      obtain ⟨pb0, pb1⟩ := pb
      clear hS hiff hlow hcnt hp
      go_wp2
      go_loop [6] (fun f => ∃ m : Nat, m ≤ n2 ∧ f = .int .i64 m ∧ (∀ j, j < m → qs.getD j 0 < p - 5)) (fun f => n2 - (intOf f).toNat)
      case atStart => exact ⟨m, hm, rfl, by rw [HP.out]; exact HLow.out⟩
      case round =>
        clear HLow hm
        obtain ⟨m, hm, rfl, hlow⟩ := hrel
        have HLow : Hid (∀ j, j < m → qs.getD j 0 < p - 5) := hlow
        clear hlow
        by_cases hm2 : m < n2
        · have cq := Z2.out m hm2
          have qb := A2.out.2 m
          obtain ⟨q, hq⟩ : ∃ q, q = qs.getD m 0 := ⟨_, rfl⟩
          have HQ : Hid (q = qs.getD m 0) := hq
          rw [← hq] at cq qb
          obtain ⟨qb0, qb1⟩ := qb
          clear hq
          by_cases hlow2 : q < p - 5
          · go_wp2
            go_round
            case rel => exact ⟨m + 1, by omega, by go_num, fun j hj => by
                by_cases e : j = m
                · rw [e, ← HQ.out]; exact hlow2
                · exact HLow.out j (by omega)⟩
            case measure => simp [intOf]; omega
          · go_wp2
            go_loop [5, 37] (fun s i => ∃ t cnt x : Nat, t ≤ n2 - m ∧ i = .int .i64 t ∧ s = .float .f64 x ∧ Fl.Sum cnt x ∧ cnt ≤ k * n2 + t ∧ (0 < cnt ↔ seen ps qs k m t)) (fun _ i => (n2 - m) - (intOf i).toNat)
            case atStart => exact ⟨0, cnt, x, Nat.zero_le _, rfl, rfl, HS.out, HC.out, HI.out.trans (seen_zero ps qs k m).symm⟩
            case round =>
              clear HS HC HI
              obtain ⟨t, cnt, x, ht, rfl, rfl, hS, hcnt, hiff⟩ := hrel
              have HS : Hid (Fl.Sum cnt x) := hS
              have HC : Hid (cnt ≤ k * n2 + t) := hcnt
              have HI : Hid (0 < cnt ↔ seen ps qs k m t) := hiff
              clear hS hcnt hiff
              by_cases hlt3 : t < n2 - m
              · have cy := Z2.out (m + t) (by omega)
                rw [← Nat.add_assoc] at cy
                have yb := A2.out.2 (m + t)
                have yq := A2.out.1 m (m + t) (by omega) (by rw [L2.out]; omega)
                rw [← HQ.out] at yq
                obtain ⟨y, hy⟩ : ∃ y, y = qs.getD (m + t) 0 := ⟨_, rfl⟩
                have HY : Hid (y = qs.getD (m + t) 0) := hy
                rw [← hy] at cy yb yq
                obtain ⟨yb0, yb1⟩ := yb
                clear hy
                have HB : Hid (cnt ≤ 67108864) := by
                  have h1 := HC.out
                  have h2 : k * n2 ≤ 4096 * 4096 := Nat.mul_le_mul (by omega) hn2
                  show cnt ≤ 67108864
                  omega
                by_cases hbr : p + 5 < y
                · have HE : Hid (found ps qs (k + 1) ↔ seen ps qs k m t) := seen_end (by rw [← HP.out]; exact HLow.out) (fun j hj hj2 => by
                    have := A2.out.1 (m + t) j hj hj2
                    rw [← HY.out] at this
                    rw [← HP.out]
                    omega) (by rw [L2.out]; omega)
                  go_wp2
                  go_round
                  case rel =>
                    refine ⟨k + 1, m, cnt, x, by omega, hm, by go_num, rfl, rfl, HS.out, ?_, HI.out.trans HE.out.symm, fun j hj i hi1 hi2 => ?_⟩
                    · have h1 := HC.out
                      rw [Nat.add_mul, Nat.one_mul]
                      omega
                    · have h1 := HLow.out j hj
                      have h2 := A1.out.1 k i (by omega) (by rw [L1.out]; exact hi2)
                      rw [← HP.out] at h2
                      omega
                  case measure => simp [intOf]; omega
                · by_cases heq : y = p
                  · have HM : Hid (seen ps qs k m (t + 1) ↔ seen ps qs k m t) := seen_miss (by
                      rw [← HP.out, ← HY.out, heq]
                      intro h
                      exact h.1 rfl)
                    clear HY
                    subst heq
                    go_wp2
                    go_round
                    case rel => exact ⟨t + 1, cnt, x, by omega, by go_num, rfl, HS.out, by have := HC.out; omega, HI.out.trans HM.out.symm⟩
                    case measure => simp [intOf]; omega
                  · have HM : Hid (seen ps qs k m (t + 1)) := seen_hit (by
                      rw [← HP.out, ← HY.out]
                      exact ⟨fun e => heq e.symm, by omega, by omega⟩)
                    by_cases hgt : p < y
                    · obtain ⟨cv, c, r, g1, g2, g3, g4⟩ := one_more (y - p) (y - p).toNat (by omega) (by omega) (by omega) HS.out HB.out
                      go_wp2
                      go_round
                      case rel => exact ⟨t + 1, cnt + 1, r, by omega, by go_num, rfl, g4.out, by have := HC.out; omega, ⟨fun _ => HM.out, fun _ => by omega⟩⟩
                      case measure => simp [intOf]; omega
                    · obtain ⟨cv, c, r, g1, g2, g3, g4⟩ := one_more (p - y) (p - y).toNat (by omega) (by omega) (by omega) HS.out HB.out
                      go_wp2
                      go_round
                      case rel => exact ⟨t + 1, cnt + 1, r, by omega, by go_num, rfl, g4.out, by have := HC.out; omega, ⟨fun _ => HM.out, fun _ => by omega⟩⟩
                      case measure => simp [intOf]; omega
              · have HE : Hid (found ps qs (k + 1) ↔ seen ps qs k m t) := seen_end (by rw [← HP.out]; exact HLow.out) (fun j hj hj2 => by rw [L2.out] at hj2; omega) (by rw [L2.out]; omega)
                go_wp2
                go_round
                case rel =>
                  refine ⟨k + 1, m, cnt, x, by omega, hm, by go_num, rfl, rfl, HS.out, ?_, HI.out.trans HE.out.symm, fun j hj i hi1 hi2 => ?_⟩
                  · have h1 := HC.out
                    rw [Nat.add_mul, Nat.one_mul]
                    omega
                  · have h1 := HLow.out j hj
                    have h2 := A1.out.1 k i (by omega) (by rw [L1.out]; exact hi2)
                    rw [← HP.out] at h2
                    omega
                case measure => simp [intOf]; omega
        · obtain rfl : m = n2 := by omega
          have HE : Hid (found ps qs (k + 1) ↔ seen ps qs k m 0) := seen_end (by rw [← HP.out]; exact HLow.out) (fun j hj hj2 => by rw [L2.out] at hj2; omega) (by rw [L2.out]; omega)
          by_cases hcap : c2 = m
          · subst hcap
            go_wp2
            refine wp_loop_rounds 1 ?_
            rw [rounds_succ]
            go_wp2
            go_round
            case rel =>
              refine ⟨k + 1, _, cnt, x, by omega, Nat.le_refl _, by go_num, rfl, rfl, HS.out, ?_, HI.out.trans ((seen_zero ps qs k _).symm.trans HE.out.symm), fun j hj i hi1 hi2 => ?_⟩
              · have h1 := HC.out
                rw [Nat.add_mul, Nat.one_mul]
                omega
              · have h1 := HLow.out j hj
                have h2 := A1.out.1 k i (by omega) (by rw [L1.out]; exact hi2)
                rw [← HP.out] at h2
                omega
            case measure => simp [intOf]; omega
          · go_wp2
            refine wp_loop_rounds 1 ?_
            rw [rounds_succ]
            go_wp2
            go_round
            case rel =>
              refine ⟨k + 1, _, cnt, x, by omega, Nat.le_refl _, by go_num, rfl, rfl, HS.out, ?_, HI.out.trans ((seen_zero ps qs k _).symm.trans HE.out.symm), fun j hj i hi1 hi2 => ?_⟩
              · have h1 := HC.out
                rw [Nat.add_mul, Nat.one_mul]
                omega
              · have h1 := HLow.out j hj
                have h2 := A1.out.1 k i (by omega) (by rw [L1.out]; exact hi2)
                rw [← HP.out] at h2
                omega
            case measure => simp [intOf]; omega
    · go_wp2
      go_ret
      obtain rfl : k = n1 := by omega
      exact ⟨cnt, x, rfl, hS, hcnt, hiff, rfl⟩

set_option maxRecDepth 100000 in
theorem near_none1 (v2 : Value) (n2 c2 : Nat) (a2 : Option Addr) (hv : v2 = .slice a2 n2 c2) (w : World) : Calls Trym.prog 23 #[.slice none 0 0, v2] w fun e w' => e = .returned (.float .f64 0) ∧ w' = w := by
  subst hv
  go_enter Trym.func23, Trym.ntmps23
  go_wp2
  refine wp_loop_rounds 1 ?_
  rw [rounds_succ]
  go_wp2
  go_ret
  exact ⟨rfl, rfl⟩

set_option maxHeartbeats 800000 in
set_option maxRecDepth 100000 in
theorem near_none2 (b1 o1 n1 c1 : Nat) (ps : List Int) (w : World) (hn1 : n1 ≤ 4096) (a1 : Asc ps)
    (z1 : ∀ j, j < n1 → w.cell? ⟨b1, o1 + j, none⟩ = some (.int .i64 (ps.getD j 0))) :
    Calls Trym.prog 23 #[.slice (some ⟨b1, o1, none⟩) n1 c1, .slice none 0 0] w fun e w' => e = .returned (.float .f64 0) ∧ w' = w := by
  have Z1 : Hid (∀ j, j < n1 → w.cell? ⟨b1, o1 + j, none⟩ = some (.int .i64 (ps.getD j 0))) := z1
  have A1 : Hid (Asc ps) := a1
  clear z1 a1
  go_enter Trym.func23, Trym.ntmps23
  go_wp2
  go_loop [5, 6, 14] (fun s f i => ∃ k : Nat, k ≤ n1 ∧ i = .int .i64 k ∧ f = .int .i64 0 ∧ s = .float .f64 0) (fun _ _ i => n1 - (intOf i).toNat)
  case atStart => exact ⟨0, Nat.zero_le _, rfl, rfl, rfl⟩
  case round =>
    obtain ⟨k, hk, rfl, rfl, rfl⟩ := hrel
    by_cases hlt : k < n1
    · have cp := Z1.out k hlt
      have pb := A1.out.2 k
      obtain ⟨p, hp⟩ : ∃ p, p = ps.getD k 0 := ⟨_, rfl⟩
      rw [← hp] at cp pb
      obtain ⟨pb0, pb1⟩ := pb
      clear hp
      go_wp2
      refine wp_loop_rounds 1 ?_
      rw [rounds_succ]
      go_wp2
      refine wp_loop_rounds 1 ?_
      rw [rounds_succ]
      go_wp2
      go_round
      case rel => exact ⟨k + 1, by omega, by go_num, rfl, rfl⟩
      case measure => simp [intOf]; omega
    · go_wp2
      go_ret
      exact ⟨rfl, rfl⟩

/-- a slice of places: nil and none, or some -/
def Pl (w : World) (v : Value) (zs : List Int) : Prop :=
  (v = .slice none 0 0 ∧ zs = []) ∨ ∃ b o c, v = .slice (some ⟨b, o, none⟩) zs.length c ∧ 0 < zs.length ∧ zs.length ≤ c ∧ c ≤ maxLen ∧ ∀ j, j < zs.length → w.cell? ⟨b, o + j, none⟩ = some (.int .i64 (zs.getD j 0))

theorem near_all (v1 v2 : Value) (ps qs : List Int) (w : World) (h1 : Pl w v1 ps) (h2 : Pl w v2 qs) (n1 : ps.length ≤ 4096) (n2 : qs.length ≤ 4096) (a1 : Asc ps) (a2 : Asc qs) :
    Calls Trym.prog 23 #[v1, v2] w fun e w' => ∃ cnt r, e = .returned (.float .f64 r) ∧ Fl.Sum cnt r ∧ cnt ≤ 16777216 ∧ (0 < cnt ↔ found ps qs ps.length) ∧ w' = w := by
  rcases h1 with ⟨rfl, rfl⟩ | ⟨b, o, c, rfl, hp, hc, hm, hz⟩
  · have hv2 : ∃ a n c, v2 = .slice a n c := by
      rcases h2 with ⟨rfl, _⟩ | ⟨b, o, c, rfl, _⟩
      · exact ⟨_, _, _, rfl⟩
      · exact ⟨_, _, _, rfl⟩
    obtain ⟨a, n, c, hv⟩ := hv2
    refine (near_none1 v2 n c a hv w).mono ?_
    rintro e w' ⟨rfl, rfl⟩
    exact ⟨0, 0, rfl, Fl.Sum.zero, by omega, ⟨fun h => by omega, fun ⟨i, _, h, _⟩ => by simp at h⟩, rfl⟩
  · rcases h2 with ⟨rfl, rfl⟩ | ⟨b2, o2, c2, rfl, hp2, hc2, hm2, hz2⟩
    · refine (near_none2 b o ps.length c ps w n1 a1 hz).mono ?_
      rintro e w' ⟨rfl, rfl⟩
      exact ⟨0, 0, rfl, Fl.Sum.zero, by omega, ⟨fun h => by omega, fun ⟨i, j, _, h, _⟩ => by simp at h⟩, rfl⟩
    · refine (near_any b o ps.length c b2 o2 qs.length c2 ps qs w n1 n2 hc2 hp2 hm2 rfl rfl a1 a2 hz hz2).mono ?_
      rintro e w' ⟨cnt, r, rfl, hS, hcnt, hiff, rfl⟩
      exact ⟨cnt, r, rfl, hS, Nat.le_trans hcnt (Nat.mul_le_mul n1 n2), hiff, rfl⟩
end Go.Proofs.Qxb6609269aMods
