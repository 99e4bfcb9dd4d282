/-
  Seat b6609269aM: b1MatchTable (14).
-/
import Derived.Test.Qxb6609269aModsText
namespace Go.Proofs.Qxb6609269aMods
open Go.RowKit

/-- does index a of the sequence hold a term of word i? -/
def mt (ts : List (List Int)) (zs : List Int) (i a : Nat) : Bool := (zs.getD a 0 != -1) && hasB (ts.getD i []) (zs.getD a 0)

/-- row i of a table of bools: header, cells -/
def TRow (G : Nat) (wr : World) (hs : List Value) (m : Nat) (f : Nat → Bool) (i : Nat) : Prop :=
  ∃ g, hs[i]? = some (.slice (some ⟨g, 0, none⟩) m m) ∧ G < g ∧ g < wr.heap.size ∧ RowF wr g m (fun a => .bool (f a))

theorem TRow.keep {G : Nat} {wr w1 : World} {hs hs' : List Value} {m i : Nat} {f : Nat → Bool} (h : TRow G wr hs m f i) (hh : hs'[i]? = hs[i]?) (hsz : wr.heap.size ≤ w1.heap.size) (hb : ∀ b, b < wr.heap.size → b ≠ G → w1.heap[b]? = wr.heap[b]?) : TRow G w1 hs' m f i := by
  obtain ⟨g, e1, e2, e3, e4⟩ := h
  refine ⟨g, hh.trans e1, e2, by omega, fun j hj => ?_⟩
  exact (World.cell?_of_block (a := ⟨g, j, none⟩) (hb g e3 (by omega))).trans (e4 j hj)

/-- a row while it is filled -/
def Part (w : World) (R m : Nat) (f : Nat → Bool) (a : Nat) : Prop :=
  ∃ xs, Blk w R 4 xs ∧ xs.length = m ∧ ∀ j, j < m → xs[j]? = some (.bool (decide (j < a) && f j))
theorem Part.start {w : World} {R m : Nat} {f : Nat → Bool} (h : Blk w R 4 (List.replicate m (.bool false))) : Part w R m f 0 :=
  ⟨_, h, by simp, fun j hj => by simp [hj]⟩
theorem Part.miss {w : World} {R m a : Nat} {f : Nat → Bool} (h : Part w R m f a) (hf : f a = false) : Part w R m f (a + 1) := by
  obtain ⟨xs, h1, h2, h3⟩ := h
  refine ⟨xs, h1, h2, fun j hj => ?_⟩
  rw [h3 j hj]
  by_cases e : j = a
  · subst e; simp [hf]
  · have : decide (j < a + 1) = decide (j < a) := by
      by_cases h : j < a
      · rw [decide_eq_true h, decide_eq_true (by omega)]
      · rw [decide_eq_false h, decide_eq_false (by omega)]
    rw [this]
theorem Part.hit {w : World} {R m a : Nat} {f : Nat → Bool} (h : Part w R m f a) (ha : a < m) (hf : f a = true) : Part (w.setCell ⟨R, a, none⟩ (.bool true)) R m f (a + 1) := by
  obtain ⟨xs, h1, h2, h3⟩ := h
  refine ⟨xs.set a (.bool true), h1.set a _, by simpa using h2, fun j hj => ?_⟩
  rw [List.getElem?_set]
  by_cases e : a = j
  · subst e; rw [if_pos rfl, if_pos (by omega), hf]; simp
  · rw [if_neg e, h3 j hj]
    have : decide (j < a + 1) = decide (j < a) := by
      by_cases h : j < a
      · rw [decide_eq_true h, decide_eq_true (by omega)]
      · rw [decide_eq_false h, decide_eq_false (by omega)]
    rw [this]
theorem Part.cell {w : World} {R m a : Nat} {f : Nat → Bool} (h : Part w R m f a) (ha : a < m) : ∃ u, w.cell? ⟨R, a, none⟩ = some u ∧ w.frozen? ⟨R, a, none⟩ = false := by
  obtain ⟨xs, h1, h2, h3⟩ := h
  exact ⟨_, by rw [h1.cell a, h3 a ha], h1.free a⟩
theorem Part.full {w : World} {R m : Nat} {f : Nat → Bool} (h : Part w R m f m) : RowF w R m (fun a => .bool (f a)) ∧ R < w.heap.size := by
  obtain ⟨xs, h1, h2, h3⟩ := h
  refine ⟨fun j hj => ?_, h1.lt⟩
  rw [h1.cell j, h3 j hj]
  simp [hj]

theorem table_step {w wk wr : World} {G n k m : Nat} {hs : List Value} {F : Nat → Nat → Bool} (hk : k < n) (hG : G < wk.heap.size) (hl : hs.length = n) (hB : Blk wr G 44 hs) (hh : ∀ j, j < k → TRow G wk hs m (F j) j) (hb : Below G w wk)
    (hbk : Below wk.heap.size wk wr) (hP : Part wr wk.heap.size m (F k) m) :
    ∃ hs', Blk (wr.setCell ⟨G, k, none⟩ (.slice (some ⟨wk.heap.size, 0, none⟩) m m)) G 44 hs' ∧ hs'.length = n ∧ (∀ j, j < k + 1 → TRow G (wr.setCell ⟨G, k, none⟩ (.slice (some ⟨wk.heap.size, 0, none⟩) m m)) hs' m (F j) j) ∧ Below G w (wr.setCell ⟨G, k, none⟩ (.slice (some ⟨wk.heap.size, 0, none⟩) m m)) := by
  generalize hv : Value.slice (some ⟨wk.heap.size, 0, none⟩) m m = v
  have hsz : (wr.setCell ⟨G, k, none⟩ v).heap.size = wr.heap.size := by simp [World.setCell]
  refine ⟨hs.set k v, hB.set k v, by simpa using hl, fun j hj => ?_, (hb.trans (hbk.mono (Nat.le_of_lt hG))).setCell (Nat.le_refl _) _⟩
  by_cases e : k = j
  · subst e
    obtain ⟨f1, f2⟩ := hP.full
    refine ⟨wk.heap.size, by rw [List.getElem?_set, if_pos rfl, if_pos (by omega), hv], hG, by rw [hsz]; exact f2, fun a ha => ?_⟩
    exact (World.cell?_of_block (a := ⟨wk.heap.size, a, none⟩) (heap_setCell_other wr _ wk.heap.size v (by show wk.heap.size ≠ G; omega))).trans (f1 a ha)
  · refine (hh j (by omega)).keep (by rw [List.getElem?_set, if_neg e]) (by rw [hsz]; exact hbk.size) (fun b hb1 hb2 => ?_)
    exact (heap_setCell_other wr _ b v hb2).trans (hbk.block b hb1)

set_option maxHeartbeats 3200000 in
set_option maxRecDepth 100000 in
theorem table_any (a1 : Option Addr) (n c1 : Nat) (ts : List (List Int)) (a2 : Option Addr) (m c2 : Nat) (zs : List Int) (w : World) (hn : n ≤ 256) (hm : m ≤ 4096) (ht : ∀ i, (ts.getD i []).length ≤ 256)
    (hT : Terms w.heap.size w a1 n ts) (hz : Lies w a2 m (vi zs)) :
    Calls Trym.prog 14 #[.slice a1 n c1, .slice a2 m c2] w fun e w' => ∃ hs, e = .returned (.slice (some ⟨w.heap.size, 0, none⟩) n n) ∧ Blk w' w.heap.size 44 hs ∧ hs.length = n ∧ (∀ i, i < n → TRow w.heap.size w' hs m (mt ts zs i) i) ∧ Below w.heap.size w w' := by
  have hlen : zs.length = m := by have := hz.1; rwa [vi_len] at this
  obtain ⟨i0, hi, hz0, hz1, hz2⟩ := info_parts Trym.info44
  obtain ⟨j0, hj, hy0, hy1, hy2⟩ := info_parts Trym.info4
  have HT : Hid (Terms w.heap.size w a1 n ts) := hT
  have HZ : Hid (Lies w a2 m (vi zs)) := hz
  have HTL : Hid (∀ i, (ts.getD i []).length ≤ 256) := ht
  have HLEN : Hid (zs.length = m) := hlen
  clear hT hz ht hlen
  go_enter Trym.func14, Trym.ntmps14
  go_wp2_with (first
    | (at_make; refine wpList_make_full _ rfl _ _ 39 rfl w.heap.size 44 i0 (.slice none 0 0) 1 Trym.underlying39 hi hz0 hz1 .i64 .i64 _ _ n rfl rfl rfl rfl (by rw [hz2]; omega) (by unfold maxLen; omega) (Nat.le_refl _) ?_; intro w1 hown hgrow; obtain ⟨HB, hb1⟩ := made hown hgrow; clear hown hgrow)
    | fail)
  go_loopw [6] (fun i wr => ∃ (k : Nat) (hs : List Value), k ≤ n ∧ i = .int .i64 k ∧ Blk wr w.heap.size 44 hs ∧ hs.length = n ∧ (∀ j, j < k → TRow w.heap.size wr hs m (mt ts zs j) j) ∧ Below w.heap.size w wr)
    (fun i _ => n - (intOf i).toNat)
  case atStart => exact ⟨0, _, Nat.zero_le _, rfl, HB.out, by simp, fun j hj => by omega, hb1⟩
  case round =>
    clear HB hb1
    obtain ⟨k, hs, hk, rfl, hB, hl, hh, hb⟩ := hrel
    by_cases hlt : k < n
    · have hG := hB.lt
      have HBk : Hid (Blk wr w.heap.size 44 hs) := hB
      have HH : Hid (∀ j, j < k → TRow w.heap.size wr hs m (mt ts zs j) j) := hh
      have HL : Hid (hs.length = n) := hl
      clear hB hh hl
      obtain ⟨wk, hwk⟩ : ∃ wk : World, wk = wr := ⟨_, rfl⟩
      subst hwk
      go_wp2_with (first
        | (at_make; refine wpList_make_full _ rfl _ _ 44 rfl wk.heap.size 4 j0 (.bool false) 1 Trym.underlying44 hj hy0 hy1 .i64 .i64 _ _ m rfl rfl rfl rfl (by rw [hy2]; omega) (by unfold maxLen; omega) (Nat.le_refl _) ?_; intro w1 hown hgrow; obtain ⟨HP, hb1⟩ := made hown hgrow; clear hown hgrow)
        | fail)
      go_loopw [8] (fun i wr => ∃ a : Nat, a ≤ m ∧ i = .int .i64 a ∧ Part wr wk.heap.size m (mt ts zs k) a ∧ Below wk.heap.size wk wr) (fun i _ => m - (intOf i).toNat)
      case atStart => exact ⟨0, Nat.zero_le _, rfl, Part.start HP.out, hb1⟩
      case round =>
        clear HP hb1
        obtain ⟨a, ha, rfl, hP, hbk⟩ := hrel
        by_cases hla : a < m
        · obtain ⟨b2, o2, rfl, hb2w, hcz⟩ := HZ.out.at hla
          rw [vi_at zs a (by rw [HLEN.out]; exact hla), ← hb.cell (p := ⟨b2, o2 + a, none⟩) hb2w, ← hbk.cell (p := ⟨b2, o2 + a, none⟩) (Nat.lt_trans hb2w hG)] at hcz
          obtain ⟨b1, o1, ai, ci, ha1, hb1w, hct, _, hLi⟩ := HT.out.at hlt
          rw [← hb.cell (p := ⟨b1, o1 + k, none⟩) hb1w, ← hbk.cell (p := ⟨b1, o1 + k, none⟩) (Nat.lt_trans hb1w hG)] at hct
          have hLr : LiesB w.heap.size wr ai (ts.getD k []).length (vi (ts.getD k [])) := (hLi.below hb).below (hbk.mono (Nat.le_of_lt hG))
          have hlT := HTL.out k
          obtain ⟨u, hu, fu⟩ := hP.cell hla
          have HMt : Hid (mt ts zs k a = ((zs.getD a 0 != -1) && hasB (ts.getD k []) (zs.getD a 0))) := rfl
          obtain ⟨y, hy⟩ : ∃ y, y = zs.getD a 0 := ⟨_, rfl⟩
          rw [← hy] at hcz HMt
          obtain ⟨tl, htl⟩ : ∃ tl, tl = ts.getD k [] := ⟨_, rfl⟩
          rw [← htl] at hct hLr hlT HMt
          have HP : Hid (Part wr wk.heap.size m (mt ts zs k) a) := hP
          have HLr : Hid (LiesB w.heap.size wr ai tl.length (vi tl)) := hLr
          subst ha1
          clear hP hLr hLi hy htl
          by_cases hy1 : y = -1
          · have hyb : (y == -1) = true := by simp [hy1]
            have HF : Hid (mt ts zs k a = false) := by show _ = _; rw [HMt.out, hy1]; rfl
            clear hy1
            go_wp2
            go_roundw
            case rel => exact ⟨a + 1, by omega, by go_num, HP.out.miss HF.out, hbk⟩
            case measure => simp [intOf]; omega
          · have hyb : (y == -1) = false := by simp [hy1]
            have HY1 : Hid (mt ts zs k a = hasB tl y) := by
              show _ = _
              rw [HMt.out]
              have : (y != -1) = true := by rw [bne_iff_ne]; exact hy1
              rw [this, Bool.true_and]
            clear hy1
            go_wp2
            go_loop [10] (fun i => ∃ q : Nat, q ≤ tl.length ∧ i = .int .i64 q ∧ hasB (tl.take q) y = false) (fun i => tl.length - (intOf i).toNat)
            case atStart => exact ⟨0, Nat.zero_le _, rfl, rfl⟩
            case round =>
              obtain ⟨q, hq, rfl, hno⟩ := hrel
              by_cases hlq : q < tl.length
              · obtain ⟨b3, o3, rfl, _, hc3⟩ := HLr.out.at hlq
                rw [vi_at tl q hlq] at hc3
                have HS : Hid (hasB (tl.take (q + 1)) y = (hasB (tl.take q) y || y == tl.getD q 0)) := by
                  show _ = _
                  rw [take_snoc tl 0 q hlq, hasB_snoc]
                have HM : Hid (tl.getD q 0 ∈ tl) := getD_mem hlq
                have HN : Hid (hasB (tl.take q) y = false) := hno
                obtain ⟨t, ht⟩ : ∃ t, t = tl.getD q 0 := ⟨_, rfl⟩
                rw [← ht] at hc3 HS HM
                clear hno ht
                by_cases hty : t = y
                · have hb1 : (t == y) = true := by simp [hty]
                  have HF : Hid (mt ts zs k a = true) := by show _ = _; rw [HY1.out, ← hty]; exact hasB_mem HM.out
                  clear hty
                  go_wp2
                  go_roundw
                  case rel => exact ⟨a + 1, by omega, by go_num, HP.out.hit hla HF.out, hbk.setCell (Nat.le_refl _) _⟩
                  case measure => simp [intOf]; omega
                · have hb1 : (t == y) = false := by simp [hty]
                  have HX : Hid ((y == t) = false) := by show _ = _; simp; exact fun e => hty e.symm
                  clear hty
                  go_wp2
                  go_round
                  case rel => exact ⟨q + 1, by omega, by go_num, by rw [HS.out, HN.out, HX.out]; rfl⟩
                  case measure => simp [intOf]; omega
              · have HF : Hid (mt ts zs k a = false) := by
                  show _ = _
                  rw [HY1.out, ← hno, List.take_of_length_le (by omega)]
                clear hno
                go_wp2
                go_roundw
                case rel => exact ⟨a + 1, by omega, by go_num, HP.out.miss HF.out, hbk⟩
                case measure => simp [intOf]; omega
        · obtain rfl : a = m := by omega
          have hB1 : Blk wr w.heap.size 44 hs := HBk.out.below hbk hG
          obtain ⟨u, hu⟩ : ∃ u, wr.cell? ⟨w.heap.size, k, none⟩ = some u := ⟨hs[k]'(by rw [HL.out]; exact hlt), by rw [hB1.cell k]; exact List.getElem?_eq_getElem (by rw [HL.out]; exact hlt)⟩
          have fu := hB1.free k
          have HS : Hid _ := table_step hlt hG HL.out hB1 HH.out hb hbk hP
          clear hB1 hP
          go_wp2
          go_roundw
          case rel =>
            obtain ⟨hs', r1, r2, r3, r4⟩ := HS.out
            exact ⟨k + 1, hs', by omega, by go_num, r1, r2, r3, r4⟩
          case measure => simp [intOf]; omega
    · obtain rfl : k = n := by omega
      go_wp2
      go_ret
      exact ⟨hs, rfl, hB, hl, hh, hb⟩
end Go.Proofs.Qxb6609269aMods
