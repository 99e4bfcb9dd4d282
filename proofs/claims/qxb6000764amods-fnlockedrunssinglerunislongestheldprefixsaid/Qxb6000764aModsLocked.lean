/-
  Seat b6000764aM: lockedRuns (19), ZZlockedRuns (10) at a list of one run, by their contract.
-/
import Derived.Test.Qxb6000764aModsCopy
namespace Go.Proofs.Qxb6000764aMods
open Go.RowKit Go.Maps

def held1 (ls zs : List Int) (k : Nat) : Prop := ∀ j, j < k → heldB ls (zs.getD j 0) = true

theorem pre_stop {ls : List Int} : ∀ {zs : List Int} {k : Nat}, k < zs.length → held1 ls zs k → heldB ls (zs.getD k 0) = false → pre ls zs = zs.take k
  | [], k, h, _, _ => by simp at h
  | z :: r, 0, _, _, hf => by simp at hf; simp [pre, hf]
  | z :: r, k + 1, h, hh, hf => by
    have h0 : heldB ls z = true := by simpa using hh 0 (by omega)
    have := pre_stop (ls := ls) (zs := r) (k := k) (by simpa using h) (fun j hj => by simpa using hh (j + 1) (by omega)) (by simpa using hf)
    simp only [pre] at this ⊢
    simp [h0, this]
theorem pre_all {ls : List Int} : ∀ {zs : List Int}, held1 ls zs zs.length → pre ls zs = zs
  | [], _ => rfl
  | z :: r, hh => by
    have h0 : heldB ls z = true := by simpa using hh 0 (by simp)
    have := pre_all (ls := ls) (zs := r) (fun j hj => by simpa using hh (j + 1) (by simpa using hj))
    simp only [pre] at this ⊢
    simp [h0, this]

def P1 (ls zs : List Int) (k : Nat) : List Int := if k = 0 then [] else pre ls zs

theorem wf_at {zs : List Int} (h : ∀ x ∈ zs, (Lit.int .i64 x).wf = true) (k : Nat) : (Lit.int .i64 (zs.getD k 0)).wf = true := by
  rw [List.getD_eq_getElem?_getD]
  cases e : zs[k]? with
  | none => decide
  | some y => exact h y (List.mem_of_getElem? e)

set_option maxHeartbeats 1600000 in
set_option maxRecDepth 100000 in
theorem locked_any (br : Nat) (a0 : Option Addr) (n c0 : Nat) (zs : List Int) (a1 : Option Addr) (m c1 : Nat) (ls : List Int) (w : World) (hn : n ≤ 1048576) (hm : m ≤ 1048576)
    (hbr : br < w.heap.size) (hcr : w.cell? ⟨br, 0, none⟩ = some (.slice a0 n c0)) (hz : Lies w a0 n zs) (hl : Lies w a1 m ls) :
    Calls Trym.prog 19 #[.slice (some ⟨br, 0, none⟩) 1 1, .slice a1 m c1] w fun e w' =>
      ∃ v, e = .returned v ∧ w'.ownsRow (w.heap.size + 1) 2 1 v (pre ls zs).length ((pre ls zs).map (Value.int .i64)) ∧ Below w.heap.size w w' := by
  obtain ⟨hzl, hzw, hzp⟩ := hz
  obtain ⟨hll, hlw, hlp⟩ := hl
  obtain ⟨i0, hi, hz0, hz1, hz2⟩ := info_parts Trym.info2
  have hmm := mm_hint
  go_enter Trym.func19, Trym.ntmps19
  go_wp2
  go_loopw [18] (fun i wr => ∃ k : Nat, k ≤ m ∧ i = .int .i64 k ∧ wr.ownsMap Trym.prog 2 (plainElem Trym.prog 4) w.heap.size k (Sd (ls.take k)) ∧ Below w.heap.size w wr)
    (fun i _ => m - (intOf i).toNat)
  case atStart => exact ⟨0, Nat.zero_le _, rfl, World.ownsMap_made _ _ _ _, (Below.refl _ _).alloc (Nat.le_refl _) _⟩
  case round =>
    obtain ⟨k, hk, rfl, hown, hb⟩ := hrel
    by_cases hlt : k < m
    · obtain ⟨b, off, rfl, hbw, hc⟩ := hlp (by omega)
      have hcx : wr.cell? ⟨b, off + k, none⟩ = some (.int .i64 (ls.getD k 0)) := (hb.cell (p := ⟨b, off + k, none⟩) hbw).trans (hc k hlt)
      have hkey : keyOf Trym.prog 2 (.int .i64 (ls.getD k 0)) = some (.int .i64 (ls.getD k 0)) := keyOf_int_mk Trym.underlying2 (wf_at hlw k)
      have HS : Hid (Sd (ls.take (k + 1)) = (Sd (ls.take k)).put (.int .i64 (ls.getD k 0)) (.lit (.bool true))) := by
        show _ = _
        rw [take_snoc ls k (by omega), Sd_snoc]
      obtain ⟨y, hy⟩ : ∃ y, y = ls.getD k 0 := ⟨_, rfl⟩
      rw [← hy] at hcx hkey HS
      clear hy hc hlp hzp
      go_wp2_with (first
        | (at_mapUpdate; refine wpList_mapUpdate_own _ rfl _ _ _ 34 rfl 2 4 law2 Trym.underlying34 _ w.heap.size k _ rfl hown (by unfold maxLen; omega) _ _ _ rfl rfl hkey _ [] (plainElem_bool Trym.underlying4 true) ?_; intro w1 hown1 hgrow1)
        | go_in)
      go_roundw
      case rel => exact ⟨k + 1, by omega, by go_num, HS.out ▸ hown1, hb.grown hgrow1 hb.size (fun j hj => by cases hj; exact Nat.le_refl _)⟩
      case measure => simp [intOf]; omega
    · obtain rfl : k = m := by omega
      rw [List.take_of_length_le (by omega)] at hown
      clear hlp
      go_wp2
      obtain ⟨wm, hwm⟩ : ∃ wm : World, wm = wr := ⟨_, rfl⟩
      subst hwm
      go_loopw [8, 27] (fun v i wr => ∃ q : Nat, q ≤ 1 ∧ i = .int .i64 q ∧ wr.ownsMap Trym.prog 2 (plainElem Trym.prog 4) w.heap.size k (Sd ls) ∧ wr.ownsRow (w.heap.size + 1) 2 1 v (P1 ls zs q).length ((P1 ls zs q).map (Value.int .i64)) ∧ Below w.heap.size w wr)
        (fun _ i _ => 1 - (intOf i).toNat)
      case atStart => exact ⟨0, by omega, rfl, hown, World.ownsRow_nil _ _ _ _, hb⟩
      case round =>
        clear hown hb
        obtain ⟨q, hq, rfl, hown, hrow, hb⟩ := hrel
        by_cases hlt2 : q < 1
        · obtain rfl : q = 0 := by omega
          have hc0 : wr.cell? ⟨br, 0, none⟩ = some (.slice a0 n c0) := (hb.cell (p := ⟨br, 0, none⟩) hbr).trans hcr
          go_wp2
          obtain ⟨wo, hwo⟩ : ∃ wo : World, wo = wr := ⟨_, rfl⟩
          subst hwo
          have hrow0 : wo.ownsRow (w.heap.size + 1) 2 1 u8 0 [] := hrow
          go_loopw [8, 33] (fun v i wr => ∃ j : Nat, j ≤ n ∧ i = .int .i64 j ∧ held1 ls zs j ∧ wr.ownsMap Trym.prog 2 (plainElem Trym.prog 4) w.heap.size k (Sd ls) ∧ wr.ownsRow (w.heap.size + 1) 2 1 v j ((zs.take j).map (Value.int .i64)) ∧ Below w.heap.size w wr)
            (fun _ i _ => n - (intOf i).toNat)
          case atStart => exact ⟨0, Nat.zero_le _, rfl, fun j hj => by omega, hown, hrow0, hb⟩
          case round =>
            clear hown hb hrow hrow0 hc0
            obtain ⟨j, hj, rfl, hheld, hown, hrow, hb⟩ := hrel
            by_cases hlt3 : j < n
            · obtain ⟨b, off, rfl, hbw, hc⟩ := hzp (by omega)
              have hcx : wr.cell? ⟨b, off + j, none⟩ = some (.int .i64 (zs.getD j 0)) := (hb.cell (p := ⟨b, off + j, none⟩) hbw).trans (hc j hlt3)
              have hkey : keyOf Trym.prog 2 (.int .i64 (zs.getD j 0)) = some (.int .i64 (zs.getD j 0)) := keyOf_int_mk Trym.underlying2 (wf_at hzw j)
              have HT : Hid (zs.take (j + 1) = zs.take j ++ [zs.getD j 0]) := take_snoc zs j (by omega)
              have HH : Hid (held1 ls zs j) := hheld
              have hms := hown.lt
              have hat := Sd_at ls (zs.getD j 0)
              have Hstop : Hid (heldB ls (zs.getD j 0) = false → pre ls zs = zs.take j) := fun h => pre_stop (by omega) hheld h
              have Hgo : Hid (heldB ls (zs.getD j 0) = true → held1 ls zs (j + 1)) := fun h t ht => by
                by_cases e : t = j
                · rw [e]; exact h
                · exact hheld t (by omega)
              obtain ⟨y, hy⟩ : ∃ y, y = zs.getD j 0 := ⟨_, rfl⟩
              rw [← hy] at hcx hkey HT hat Hstop Hgo
              have HL : Hid ((zs.take j).length = j) := by
                show _ = _
                rw [List.length_take]; omega
              clear hy hc hzp hheld
              cases hc : heldB ls y with
              | false =>
                rw [hc] at hat
                have HP := Hstop.out hc
                clear hc Hstop Hgo
                have HP' : Hid (pre ls zs = zs.take j) := HP
                clear HP
                go_wp2_with (first
                  | (at_lookup; refine wpList_lookup_own_bool _ rfl _ _ 34 rfl 2 4 law2 Trym.underlying34 Trym.underlying4 (zero4 _) w.heap.size k _ rfl hown _ _ rfl hkey false hat ?_)
                  | go_in)
                go_roundw
                case rel => exact ⟨1, by omega, by go_num, hown, by show wr.ownsRow _ _ _ _ (pre ls zs).length ((pre ls zs).map _); rw [HP'.out, HL.out]; exact hrow, hb⟩
                case measure => simp [intOf]
              | true =>
                rw [hc] at hat
                have HP : Hid (held1 ls zs (j + 1)) := Hgo.out hc
                clear hc Hstop Hgo
                go_wp2_with (first
                  | (at_lookup; refine wpList_lookup_own_bool _ rfl _ _ 34 rfl 2 4 law2 Trym.underlying34 Trym.underlying4 (zero4 _) w.heap.size k _ rfl hown _ _ rfl hkey true hat ?_)
                  | (at_builtin; refine wpList_append_own _ rfl _ _ 22 rfl (w.heap.size + 1) 2 i0 (.int .i64 0) 1 8 Trym.underlying22 hi hz0 hz1 hz2 rfl (by decide) _ _ _ rfl (hrow.alloc _) ⟨wr.heap.size, 0, none⟩ 1 1 [.int .i64 y] rfl rfl (cell_one_new _ _ _) (ints_oneCell .i64 [y]) (by unfold maxLen; omega) (by omega) (by simp; omega) ?_; intro v' w1 hown' hgrow hnil)
                  | go_in)
                have REL : ∃ j' : Nat, j' ≤ n ∧ Value.int .i64 ((j : Int) + 1) = .int .i64 j' ∧ held1 ls zs j' ∧ w1.ownsMap Trym.prog 2 (plainElem Trym.prog 4) w.heap.size k (Sd ls) ∧ w1.ownsRow (w.heap.size + 1) 2 1 v' j' ((zs.take j').map (Value.int .i64)) ∧ Below w.heap.size w w1 := by
                  refine ⟨j + 1, by omega, by go_num, HP.out, (hown.alloc _).kept hgrow (fun e => ?_), ?_, (hb.alloc (by omega) _).grown hgrow (by simp; omega) (fun t ht => ?_)⟩
                  · have := (hrow.lt _ e.symm).1; omega
                  · rw [HT.out, List.map_append]; exact hown'
                  · have := (hrow.lt t ht).1; omega
                clear hown' hgrow hown hrow hb
                go_roundw
                case rel => first | exact REL | ((repeat apply Exists.intro); exact ⟨REL, rfl⟩)
                case measure => simp [intOf]; omega
            · obtain rfl : j = n := by omega
              have HP : Hid (pre ls zs = zs) := pre_all (by rw [hzl]; exact hheld)
              rw [List.take_of_length_le (by omega)] at hrow
              clear hheld hzp
              go_wp2
              go_roundw
              case rel => exact ⟨1, by omega, by go_num, hown, by show wr.ownsRow _ _ _ _ (pre ls zs).length ((pre ls zs).map _); rw [HP.out, hzl]; exact hrow, hb⟩
              case measure => simp [intOf]
        · obtain rfl : q = 1 := by omega
          have hrow1 : wr.ownsRow (w.heap.size + 1) 2 1 u8 (pre ls zs).length ((pre ls zs).map (Value.int .i64)) := hrow
          clear hzp hrow
          go_wp2
          go_ret
          exact ⟨_, rfl, hrow1, hb⟩

set_option maxRecDepth 100000 in
theorem zz_locked_any (br : Nat) (a0 : Option Addr) (n c0 : Nat) (zs : List Int) (a1 : Option Addr) (m c1 : Nat) (ls : List Int) (w : World) (hn : n ≤ 1048576) (hm : m ≤ 1048576)
    (hbr : br < w.heap.size) (hcr : w.cell? ⟨br, 0, none⟩ = some (.slice a0 n c0)) (hz : Lies w a0 n zs) (hl : Lies w a1 m ls) :
    Calls Trym.prog 10 #[.slice (some ⟨br, 0, none⟩) 1 1, .slice a1 m c1] w fun e w' =>
      ∃ a c, e = .returned (.slice a (pre ls zs).length c) ∧ Lies w' a (pre ls zs).length (pre ls zs) ∧ Below w.heap.size w w' := by
  have hwf : ∀ x ∈ pre ls zs, (Lit.int .i64 x).wf = true := fun x hx => hz.2.1 x ((List.takeWhile_sublist _).subset hx)
  go_enter Trym.func10, Trym.ntmps10
  go_wp2_with fail
  refine (locked_any br a0 n c0 zs a1 m c1 ls w hn hm hbr hcr hz hl).mono ?_
  rintro e w' ⟨v, rfl, hown, hb⟩
  have hex : ∃ a c, v = .slice a (pre ls zs).length c ∧ Lies w' a (pre ls zs).length (pre ls zs) := by
    rcases hown.2 with ⟨rfl, h0⟩ | ⟨g, cap, cur, rfl, hg, hh, _⟩
    · exact ⟨none, 0, by rw [h0], rfl, hwf, fun h => by omega⟩
    · refine ⟨_, cap, rfl, rfl, hwf, fun h => ⟨g, 0, rfl, (Array.getElem?_eq_some_iff.1 hh).1, fun j hj => ?_⟩⟩
      rw [Nat.zero_add, hown.cellAt j (by omega), List.getElem?_map, List.getElem?_eq_getElem hj]
      simp [List.getElem?_eq_getElem hj]
  obtain ⟨a, c, rfl, hlies⟩ := hex
  clear hown hwf hz hl hcr
  go_wp2
  go_ret
  exact ⟨a, c, rfl, hlies, hb⟩
end Go.Proofs.Qxb6000764aMods
