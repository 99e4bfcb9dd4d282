/-
  Seat b6609269aM: nearness (18).
-/
import Derived.Test.Qxb6609269aModsMin
import Derived.Deep.RegionHeld3
namespace Go.Proofs.Qxb6609269aMods
open Go.RowKit

/-- all that nearness reads -/
structure Ready (w : World) (gW gM gP gR gE n m : Nat) (ts : List (List Int)) (zs : List Int) (fs : List Nat) (avg : Nat) (xs : List Value) (af : Option Addr) (cf : Nat) (aq : Option Addr) (cs : Nat) (l0 l1 l2 l3 : Nat) : Prop where
  rnk : Rnk w gW gM gP gR n af n cf avg xs
  ent : Blk w gE 64 (enCells aq m cs l0 l1 l2 l3)
  neE : gE ≠ gP
  words : ∀ j, j < n → ∃ aj cj, xs[j * 3 + 2]? = some (.slice aj (ts.getD j []).length cj) ∧ LiesX gP w aj (ts.getD j []).length (vi (ts.getD j []))
  idfs : LiesX gP w af n (vf fs)
  seq : LiesX gP w aq m (vi zs)
  few : n ≤ 256
  short : m ≤ 4096
  tl : ∀ i, (ts.getD i []).length ≤ 256
  zl : zs.length = m
  fl : fs.length = n

/-- the cells that nearness reads, in every later world -/
theorem Ready.cells {w wr : World} {gW gM gP gR gE n m : Nat} {ts : List (List Int)} {zs : List Int} {fs : List Nat} {avg : Nat} {xs : List Value} {af : Option Addr} {cf : Nat} {aq : Option Addr} {cs l0 l1 l2 l3 : Nat}
    (h : Ready w gW gM gP gR gE n m ts zs fs avg xs af cf aq cs l0 l1 l2 l3) (hg : w.grownBy wr (some gP)) :
    wr.cell? ⟨gR, 0, none⟩ = some (.pointer (some ⟨gM, 0, none⟩)) ∧ wr.cell? ⟨gR, 1, none⟩ = some (.slice af n cf) ∧ wr.cell? ⟨gR, 6, none⟩ = some (.float .f64 avg) ∧ wr.cell? ⟨gR, 7, none⟩ = some (.slice (some ⟨gP, 0, none⟩) n n) ∧
      wr.cell? ⟨gM, 1, none⟩ = some (.slice (some ⟨gW, 0, none⟩) n n) ∧ wr.cell? ⟨gE, 18, none⟩ = some (.slice aq m cs) ∧ wr.cell? ⟨gE, 19, none⟩ = some (.int .i32 l0) ∧ wr.cell? ⟨gE, 20, none⟩ = some (.int .i32 l1) ∧ wr.cell? ⟨gE, 21, none⟩ = some (.int .i32 l2) ∧ wr.cell? ⟨gE, 22, none⟩ = some (.int .i32 l3) := by
  obtain ⟨r1, r2, r3, r4, r5, r6⟩ := h.rnk
  have q1 := r1.grown hg (by omega)
  have q2 := r2.grown hg (by omega)
  have q3 := h.ent.grown hg h.neE
  exact ⟨q1.cell 0, q1.cell 1, q1.cell 6, q1.cell 7, q2.cell 1, q3.cell 18, q3.cell 19, q3.cell 20, q3.cell 21, q3.cell 22⟩
theorem Ready.word {w wr : World} {gW gM gP gR gE n m : Nat} {ts : List (List Int)} {zs : List Int} {fs : List Nat} {avg : Nat} {xs : List Value} {af : Option Addr} {cf : Nat} {aq : Option Addr} {cs l0 l1 l2 l3 : Nat}
    (h : Ready w gW gM gP gR gE n m ts zs fs avg xs af cf aq cs l0 l1 l2 l3) (hg : w.grownBy wr (some gP)) {j : Nat} (hj : j < n) :
    ∃ aj cj, wr.cell? ⟨gW, j * 3 + 2, none⟩ = some (.slice aj (ts.getD j []).length cj) ∧ Lies wr aj (ts.getD j []).length (vi (ts.getD j [])) := by
  obtain ⟨r1, r2, r3, r4, r5, r6⟩ := h.rnk
  obtain ⟨aj, cj, e1, e2⟩ := h.words j hj
  exact ⟨aj, cj, by rw [(r3.grown hg (by omega)).cell, e1], (e2.grown hg).lies⟩

theorem Ready.ltP {w : World} {gW gM gP gR gE n m : Nat} {ts : List (List Int)} {zs : List Int} {fs : List Nat} {avg : Nat} {xs : List Value} {af : Option Addr} {cf : Nat} {aq : Option Addr} {cs l0 l1 l2 l3 : Nat}
    (h : Ready w gW gM gP gR gE n m ts zs fs avg xs af cf aq cs l0 l1 l2 l3) : gP < w.heap.size ∧ gR < w.heap.size ∧ gP ≠ gR := by
  obtain ⟨r1, r2, r3, r4, r5, r6⟩ := h.rnk
  have := r1.lt
  omega
theorem pos_break (zs : List Int) (a : Nat) (ha : a < zs.length) (h : zs.getD a 0 = -1) : pos zs (a + 1) = pos zs a + 5 := by
  unfold pos
  rw [br_hit zs a ha h]
  omega
theorem pos_word (zs : List Int) (a : Nat) (ha : a < zs.length) (h : zs.getD a 0 ≠ -1) : pos zs (a + 1) = pos zs a + 1 := by
  unfold pos
  rw [br_miss zs a ha h]
  omega
theorem plc_break (ts : List (List Int)) (zs : List Int) (i a : Nat) (h : zs.getD a 0 = -1) : plc ts zs i (a + 1) = plc ts zs i a := by
  simp only [plc]
  rw [if_neg (fun hm => mt_not hm h)]
/-- the lists after q words at index a -/
def plq (ts : List (List Int)) (zs : List Int) (a q i : Nat) : List Int := if i < q then plc ts zs i (a + 1) else plc ts zs i a
theorem plq_miss {ts : List (List Int)} {zs : List Int} {a q : Nat} (h : mt ts zs q a = false) (i : Nat) : plq ts zs a (q + 1) i = plq ts zs a q i := by
  unfold plq
  by_cases e : i = q
  · subst e
    rw [if_pos (by omega), if_neg (by omega)]
    simp only [plc]
    rw [h, if_neg (by decide)]
  · by_cases h2 : i < q
    · rw [if_pos h2, if_pos (by omega)]
    · rw [if_neg h2, if_neg (by omega)]
theorem plq_hit {ts : List (List Int)} {zs : List Int} {a q : Nat} (h : mt ts zs q a = true) (i : Nat) : plq ts zs a (q + 1) i = grow (plq ts zs a q) q (pos zs a) i := by
  by_cases e : i = q
  · subst e
    have e1 : plq ts zs a (i + 1) i = plc ts zs i (a + 1) := by unfold plq; rw [if_pos (by omega)]
    have e2 : plq ts zs a i i = plc ts zs i a := by unfold plq; rw [if_neg (by omega)]
    have e3 : plc ts zs i (a + 1) = plc ts zs i a ++ [(pos zs a : Int)] := by simp only [plc]; rw [if_pos h]
    unfold grow
    rw [if_pos rfl, e1, e2, e3]
  · unfold grow
    rw [if_neg e]
    unfold plq
    by_cases h2 : i < q
    · rw [if_pos h2, if_pos (by omega)]
    · rw [if_neg h2, if_neg (by omega)]

theorem set_nil (n k : Nat) (v : Value) : (List.replicate n v).set k v = List.replicate n v := by
  apply List.ext_getElem?
  intro i
  rw [List.getElem?_set]
  by_cases e : k = i
  · subst e
    by_cases h : k < n <;> simp [h]
  · rw [if_neg e]
theorem grown_drew {w w1 : World} {r : Option Nat} (h : w.grownBy w1 r) : w.grownBy w1.drew r := ⟨h.os, h.tape, h.output, h.size, h.block⟩
theorem grown_set (w : World) {w1 : World} {g : Nat} (h : w.grownBy w1 (some g)) (o : Nat) (v : Value) : w.grownBy (w1.setCell ⟨g, o, none⟩ v) (some g) :=
  ⟨h.os, h.tape, h.output, by simpa [World.setCell] using h.size, fun k hk hne => (heap_setCell_other w1 ⟨g, o, none⟩ k v (fun e => hne (by rw [e]))).trans (h.block k hk hne)⟩

/-- the block of one number that the append reads -/
abbrev oneObj (p : Int) : Obj := .cells #[.int .i64 p] 3
/-- all that the statement 'r.places[i] = append(r.places[i], at)' wants -/
theorem app_facts {w w1 : World} {gP gR n q : Nat} {pl : Nat → List Int} {p : Int} {x : Value} (hPS : PS w1 w.heap.size gP n pl) (hG : w.grownBy w1 (some gP)) (hq : q < n) (hPlt : gP < w.heap.size) (hRlt : gR < w.heap.size) (hlen : (pl q).length ≤ 4096)
    (c7 : w1.cell? ⟨gR, 7, none⟩ = some x) :
    ∃ (v : Value) (ln : Nat) (vs : List Value), w1.cell? ⟨gP, q, none⟩ = some v ∧ ((w1.alloc (oneObj p)).drew).cell? ⟨gP, q, none⟩ = some v ∧ ((w1.alloc (oneObj p)).drew).cell? ⟨gR, 7, none⟩ = some x ∧
      Hid (((w1.alloc (oneObj p)).drew).ownsRow w.heap.size 3 1 v ln vs) ∧
      Hid (∀ j u, [Value.int .i64 p][j]? = some u → ((w1.alloc (oneObj p)).drew).cell? ((⟨w1.heap.size, 0, none⟩ : Addr).add j) = some u) ∧
      Hid (ln + 1 ≤ maxLen ∧ (ln + 1) * 8 ≤ 140737488355328 ∧ w.heap.size ≤ ((w1.alloc (oneObj p)).drew).heap.size ∧ ((w1.alloc (oneObj p)).drew).heap.size = w1.heap.size + 1) ∧
      Hid (∀ (g cap : Nat) (w2 : World), w2.ownsRow w.heap.size 3 1 (.slice (some ⟨g, 0, none⟩) (ln + 1) cap) (ln + 1) (vs ++ [.int .i64 p]) → ((w1.alloc (oneObj p)).drew).grownBy w2 v.ownBlock → (v.ownBlock = some g ∨ g = w1.heap.size + 1) →
        (w2.cell? ⟨gR, 7, none⟩ = some x ∧ w2.cell? ⟨gP, q, none⟩ = some v ∧ w2.frozen? ⟨gP, q, none⟩ = false) ∧
        Hid (PS (w2.setCell ⟨gP, q, none⟩ (.slice (some ⟨g, 0, none⟩) (ln + 1) cap)) w.heap.size gP n (grow pl q p) ∧ w.grownBy (w2.setCell ⟨gP, q, none⟩ (.slice (some ⟨g, 0, none⟩) (ln + 1) cap)) (some gP))) := by
  obtain ⟨v, cv, hov, _, fv⟩ := hPS.at hq
  have hws : w.heap.size ≤ w1.heap.size := hG.size
  have hneR : some gR ≠ v.ownBlock := fun e => by have := (hov.lt gR e.symm).1; omega
  have hneP : some gP ≠ v.ownBlock := fun e => by have := (hov.lt gP e.symm).1; omega
  have hsz : ((w1.alloc (oneObj p)).drew).heap.size = w1.heap.size + 1 := by
    show (w1.heap.push _).size = _
    simp
  have k1 : ((w1.alloc (oneObj p)).drew).cell? ⟨gP, q, none⟩ = some v := (World.cell?_alloc_lt w1 _ ⟨gP, q, none⟩ (Nat.lt_of_lt_of_le hPlt hws)).trans cv
  have k2 : ((w1.alloc (oneObj p)).drew).cell? ⟨gR, 7, none⟩ = some x := (World.cell?_alloc_lt w1 _ ⟨gR, 7, none⟩ (Nat.lt_of_lt_of_le hRlt hws)).trans c7
  refine ⟨v, (pl q).length, vl (pl q), cv, k1, k2, (hov.alloc _).drew, cell_one_new w1 _ _, ⟨by unfold maxLen; omega, by omega, by omega, hsz⟩, ?_⟩
  intro g cap w2 h1 h2 h3
  have d1 := h2.cell_far ⟨gR, 7, none⟩ (by show gR < _; omega) hneR
  have d2 := h2.cell_far ⟨gP, q, none⟩ (by show gP < _; omega) hneP
  have d3 := h2.frozen_far ⟨gP, q, none⟩ (by show gP < _; omega) hneP
  refine ⟨⟨d1.trans k2, d2.trans k1, d3.trans ?_⟩, ?_⟩
  · exact (World.frozen?_alloc_past (oneObj p) gP q (Nat.lt_of_lt_of_le hPlt hws)).trans fv
  · exact hPS.step hG hq cv ((Below.refl _ _).alloc (Nat.le_refl _) _).drew h2 h1 (by rw [hsz]; exact h3)

set_option maxHeartbeats 6400000 in
set_option maxRecDepth 100000 in
theorem ness_any {w : World} {gW gM gP gR gE n m : Nat} {ts : List (List Int)} {zs : List Int} {fs : List Nat} {avg : Nat} {xs : List Value} {af : Option Addr} {cf : Nat} {aq : Option Addr} {cs l0 l1 l2 l3 : Nat}
    (h : Ready w gW gM gP gR gE n m ts zs fs avg xs af cf aq cs l0 l1 l2 l3) (hn2 : 2 ≤ n) (hP : Blk w gP 41 (List.replicate n (.slice none 0 0))) (hl : l0 ≤ 268435456 ∧ l1 ≤ 268435456 ∧ l2 ≤ 268435456 ∧ l3 ≤ 268435456) (havg : Avg avg) (hfs : ∀ i, i < n → Fl.Idf (fs.getD i 0)) :
    Calls Trym.prog 18 #[.pointer (some ⟨gR, 0, none⟩), .pointer (some ⟨gE, 0, none⟩)] w fun e w' => ∃ x, e = .returned (.float .f64 x) ∧ At ts zs fs m n n 0 x ∧ w.grownBy w' (some gP) := by
  have HR : Hid (Ready w gW gM gP gR gE n m ts zs fs avg xs af cf aq cs l0 l1 l2 l3) := h
  have hfew := h.few
  have hshort := h.short
  obtain ⟨c0, c1, c6, c7, cM, cE, e19, e20, e21, e22⟩ := h.cells (World.grownBy.refl w _)
  have HPn : Hid (Blk w gP 41 (List.replicate n (.slice none 0 0))) := hP
  have HAvg : Hid (Avg avg) := havg
  have HFs : Hid (∀ i, i < n → Fl.Idf (fs.getD i 0)) := hfs
  obtain ⟨hl0, hl1, hl2, hl3⟩ := hl
  obtain ⟨i0, hi, hz0, hz1, hz2⟩ := info_parts Trym.info3
  clear h hP havg hfs
  go_enter Trym.func18, Trym.ntmps18
  go_wp2
  go_loopw [32] (fun i wr => ∃ k : Nat, k ≤ n ∧ i = .int .i64 k ∧ Blk wr gP 41 (List.replicate n (.slice none 0 0)) ∧ w.grownBy wr (some gP))
    (fun i _ => n - (intOf i).toNat)
  case atStart => exact ⟨0, Nat.zero_le _, rfl, HPn.out, World.grownBy.refl _ _⟩
  case round =>
    clear c0 c1 c6 c7 cM cE e19 e20 e21 e22 HPn
    obtain ⟨k, hk, rfl, hB, hg⟩ := hrel
    obtain ⟨c0, c1, c6, c7, cM, cE, e19, e20, e21, e22⟩ := HR.out.cells hg
    by_cases hlt : k < n
    · have cP : wr.cell? ⟨gP, k, none⟩ = some (.slice none 0 0) := by rw [hB.cell k]; simp [hlt]
      have fP := hB.free k
      have i1 : (k : Int) < (n : Int) := by omega
      have HB : Hid (Blk wr gP 41 (List.replicate n (.slice none 0 0))) := hB
      have HG : Hid (w.grownBy wr (some gP)) := hg
      clear hB hg c0 c1 c6 cM cE e19 e20 e21 e22
      go_wp2
      go_region
      go_wp2
      go_roundw
      case rel =>
        have hB' := HB.out.set k (.slice none 0 0)
        rw [set_nil] at hB'
        exact ⟨k + 1, by omega, by go_num, hB', grown_drew (grown_set w HG.out _ _)⟩
      case measure => simp [intOf]; omega
    · have hPS : PS wr w.heap.size gP n (fun i => plc ts zs i 0) := PS.start HR.out.ltP.1 hg.size hB
      clear c0 c1 c6 c7 cM e19 e20 e21 e22 hB
      go_wp2
      obtain ⟨wk, hwk⟩ : ∃ wk : World, wk = wr := ⟨_, rfl⟩
      subst hwk
      go_loopw [6, 56] (fun p i wr => ∃ a : Nat, a ≤ m ∧ i = .int .i64 a ∧ p = .int .i64 (pos zs a) ∧ PS wr w.heap.size gP n (fun i => plc ts zs i a) ∧ w.grownBy wr (some gP))
        (fun _ i _ => m - (intOf i).toNat)
      case atStart => exact ⟨0, Nat.zero_le _, rfl, rfl, hPS, hg⟩
      case round =>
        clear hPS hg cE
        obtain ⟨a, ha, rfl, rfl, hPS, hg⟩ := hrel
        obtain ⟨c0, c1, c6, c7, cM, cE, e19, e20, e21, e22⟩ := HR.out.cells hg
        have hpb := pos_bd zs a
        by_cases hla : a < m
        · obtain ⟨bq, oq, rfl, _, _, hcz⟩ := (HR.out.seq.grown hg).at hla
          rw [vi_at zs a (by rw [HR.out.zl]; exact hla)] at hcz
          have H1 : Hid (zs.getD a 0 = -1 → pos zs (a + 1) = pos zs a + 5 ∧ ∀ i, plc ts zs i (a + 1) = plc ts zs i a) := fun h => ⟨pos_break zs a (by rw [HR.out.zl]; exact hla) h, fun i => plc_break ts zs i a h⟩
          have H2 : Hid (zs.getD a 0 ≠ -1 → pos zs (a + 1) = pos zs a + 1 ∧ ∀ q, mt ts zs q a = hasB (ts.getD q []) (zs.getD a 0)) := fun h => ⟨pos_word zs a (by rw [HR.out.zl]; exact hla) h, fun q => by
            unfold mt
            have : (zs.getD a 0 != -1) = true := by rw [bne_iff_ne]; exact h
            rw [this, Bool.true_and]⟩
          obtain ⟨y, hy⟩ : ∃ y, y = zs.getD a 0 := ⟨_, rfl⟩
          rw [← hy] at hcz H1 H2
          obtain ⟨p, hp⟩ : ∃ p, p = pos zs a := ⟨_, rfl⟩
          have HPp : Hid (p = pos zs a) := hp
          rw [← hp] at hpb H1 H2 ⊢
          have HPS : Hid (PS wr w.heap.size gP n (fun i => plc ts zs i a)) := hPS
          have HG : Hid (w.grownBy wr (some gP)) := hg
          clear hy hp hPS hg c1 c6 cE e19 e20 e21 e22
          by_cases hy1 : y = -1
          · have hyb : (y == -1) = true := by simp [hy1]
            have H3 : Hid _ := H1.out hy1
            clear hy1 H1 H2 c0 c7 cM
            go_wp2
            go_roundw
            case rel =>
              refine ⟨a + 1, by omega, by go_num, ?_, HPS.out.congr (fun i _ => H3.out.2 i), HG.out⟩
              rw [H3.out.1]; go_num
            case measure => simp [intOf]; omega
          · have hyb : (y == -1) = false := by simp [hy1]
            have H3 : Hid _ := H2.out hy1
            clear hy1 H1 H2
            go_wp2
            obtain ⟨wa, hwa⟩ : ∃ wa : World, wa = wr := ⟨_, rfl⟩
            subst hwa
            go_loopw [72] (fun i wr => ∃ q : Nat, q ≤ n ∧ i = .int .i64 q ∧ PS wr w.heap.size gP n (plq ts zs a q) ∧ w.grownBy wr (some gP)) (fun i _ => n - (intOf i).toNat)
            case atStart => exact ⟨0, Nat.zero_le _, rfl, HPS.out.congr (fun i _ => by simp [plq]), HG.out⟩
            case round =>
              clear HPS HG c0 c7 cM hcz
              obtain ⟨q, hq, rfl, hPS, hg⟩ := hrel
              obtain ⟨c0, c1, c6, c7, cM, cE, e19, e20, e21, e22⟩ := HR.out.cells hg
              by_cases hlq : q < n
              · obtain ⟨aj, cj, cw, hLw⟩ := HR.out.word hg hlq
                have htl := HR.out.tl q
                have H4 : Hid (mt ts zs q a = hasB (ts.getD q []) y) := H3.out.2 q
                obtain ⟨tq, htq⟩ : ∃ tq, tq = ts.getD q [] := ⟨_, rfl⟩
                rw [← htq] at cw hLw htl H4
                have HPS : Hid (PS wr w.heap.size gP n (plq ts zs a q)) := hPS
                have HG : Hid (w.grownBy wr (some gP)) := hg
                have HL : Hid (Lies wr aj tq.length (vi tq)) := hLw
                have i1 : (q : Int) < (n : Int) := by omega
                clear htq hPS hg hLw c1 c6 cE e19 e20 e21 e22
                go_wp2_with fail
                refine (contains_any aj tq.length cj tq y wr (by omega) HL.out).mono ?_
                cases hb : hasB tq y with
                | false =>
                  rintro e w1 ⟨rfl, rfl⟩
                  have H5 : Hid (mt ts zs q a = false) := by show _ = _; rw [H4.out, hb]
                  clear hb
                  go_wp2
                  go_roundw
                  case rel => exact ⟨q + 1, by omega, by go_num, HPS.out.congr (fun i _ => plq_miss H5.out i), HG.out⟩
                  case measure => simp [intOf]; omega
                | true =>
                  rintro e w1 ⟨rfl, rfl⟩
                  have H5 : Hid (mt ts zs q a = true) := by show _ = _; rw [H4.out, hb]
                  clear hb
                  obtain ⟨hPlt, hRlt, hPR⟩ := HR.out.ltP
                  have hlen : (plq ts zs a q q).length ≤ 4096 := by
                    have := plc_len ts zs q a
                    unfold plq
                    rw [if_neg (by omega)]
                    omega
                  obtain ⟨v, ln, vs, cv, k1, k2, HO, HC, HN, HST⟩ := app_facts (p := (p : Int)) HPS.out HG.out hlq hPlt hRlt hlen c7
                  have HGR : Hid (∀ i, plq ts zs a (q + 1) i = grow (plq ts zs a q) q (p : Int) i) := fun i => by rw [HPp.out]; exact plq_hit H5.out i
                  clear HPS HG hlen hPlt hRlt hPR cw cM c0 HL H5 H4
                  go_wp2
                  refine wp_region_noPanic ?_
                  go_region_law (first | (refine step_append_lies _ rfl _ _ 41 rfl w.heap.size 3 i0 (.int .i64 0) 1 8 Trym.underlying41 hi hz0 hz1 hz2 rfl (by decide) v ln vs rfl HO.out ⟨w1.heap.size, 0, none⟩ 1 1 [.int .i64 (p : Int)] rfl rfl HC.out (ints_oneCell .i64 [(p : Int)]) (by decide) HN.out.1 HN.out.2.1 HN.out.2.2.1 _ HN.out.2.2.2 ?_; intro g cap w2 hown hgrow hat hlt; obtain ⟨⟨d1, d2, d3⟩, HW⟩ := HST.out g cap w2 hown hgrow hat; clear hown hgrow hat hlt))
                  all_goals
                    refine NoPanic.normal ?_
                    go_wp2
                    go_roundw
                    case rel => exact ⟨q + 1, by omega, by go_num, HW.out.1.congr (fun i _ => HGR.out i), HW.out.2⟩
                    case measure => simp [intOf]; omega
              · have hqn : q = n := by omega
                subst hqn
                have HPS : Hid (PS wr w.heap.size gP q (fun i => plc ts zs i (a + 1))) := hPS.congr (fun i hi => by unfold plq; rw [if_pos hi])
                have HG : Hid (w.grownBy wr (some gP)) := hg
                have H6 : Hid (pos zs (a + 1) = p + 1) := H3.out.1
                clear hPS hg c1 c6 cE e19 e20 e21 e22 H3
                go_wp2
                go_roundw
                case rel =>
                  refine ⟨a + 1, by omega, by go_num, ?_, HPS.out, HG.out⟩
                  rw [H6.out]; go_num
                case measure => simp [intOf]; omega
        · have hqn : a = m := by omega
          subst hqn
          have HPS : Hid (PS wr w.heap.size gP n (fun i => plc ts zs i a)) := hPS
          have HG : Hid (w.grownBy wr (some gP)) := hg
          have HP : Hid (pos zs a = pos zs a) := rfl
          obtain ⟨pm, hpm⟩ : ∃ pm, pm = pos zs a := ⟨_, rfl⟩
          rw [← hpm]
          clear hPS hg hpb hpm HP
          have x0 : ∀ w, (Instr.index 29 (.agg #[.int .i32 (l0 : Int), .int .i32 (l1 : Int), .int .i32 (l2 : Int), .int .i32 (l3 : Int)]) (.int .i64 0)).run Trym.prog w = .ok (.int .i32 (l0 : Int)) w := fun _ => by kernel_rfl
          have x1 : ∀ w, (Instr.index 29 (.agg #[.int .i32 (l0 : Int), .int .i32 (l1 : Int), .int .i32 (l2 : Int), .int .i32 (l3 : Int)]) (.int .i64 1)).run Trym.prog w = .ok (.int .i32 (l1 : Int)) w := fun _ => by kernel_rfl
          have x2 : ∀ w, (Instr.index 29 (.agg #[.int .i32 (l0 : Int), .int .i32 (l1 : Int), .int .i32 (l2 : Int), .int .i32 (l3 : Int)]) (.int .i64 2)).run Trym.prog w = .ok (.int .i32 (l2 : Int)) w := fun _ => by kernel_rfl
          have x3 : ∀ w, (Instr.index 29 (.agg #[.int .i32 (l0 : Int), .int .i32 (l1 : Int), .int .i32 (l2 : Int), .int .i32 (l3 : Int)]) (.int .i64 3)).run Trym.prog w = .ok (.int .i32 (l3 : Int)) w := fun _ => by kernel_rfl
          go_wp2
          obtain ⟨wk, hwk⟩ : ∃ wk : World, wk = wr := ⟨_, rfl⟩
          subst hwk
          go_loopw [10, 12, 113] (fun t _ i wr => ∃ k s : Nat, k ≤ 4 ∧ i = .int .i64 k ∧ t = .int .i32 (s : Int) ∧ s ≤ k * 268435456 ∧ wr = wk) (fun _ _ i _ => 4 - (intOf i).toNat)
          case atStart => exact ⟨0, 0, by omega, rfl, rfl, by omega, rfl⟩
          case round =>
            obtain ⟨j, s, hj, rfl, rfl, hs, rfl⟩ := hrel
            by_cases hj4 : j < 4
            · have hx : j = 0 ∨ j = 1 ∨ j = 2 ∨ j = 3 := by omega
              rcases hx with rfl | rfl | rfl | rfl
              · go_wp2
                go_roundw
                case rel => exact ⟨1, s + l0, by omega, rfl, by go_num, by omega, trivial⟩
                case measure => simp [intOf]
              · go_wp2
                go_roundw
                case rel => exact ⟨2, s + l1, by omega, rfl, by go_num, by omega, trivial⟩
                case measure => simp [intOf]
              · go_wp2
                go_roundw
                case rel => exact ⟨3, s + l2, by omega, rfl, by go_num, by omega, trivial⟩
                case measure => simp [intOf]
              · go_wp2
                go_roundw
                case rel => exact ⟨4, s + l3, by omega, rfl, by go_num, by omega, trivial⟩
                case measure => simp [intOf]
            · clear x0 x1 x2 x3 e19 e20 e21 e22 cE
              go_wp2_with fail
              refine (norm_any s (by omega) avg HAvg.out wr).mono ?_
              rintro e w1 ⟨nr0, rfl, hnr, rfl⟩
              have HN : Hid (Nrm nr0) := hnr
              have HGd : Hid (∀ d, w.grownBy (w1.drewN d) (some gP)) := fun d => ⟨HG.out.os, HG.out.tape, HG.out.output, HG.out.size, HG.out.block⟩
              clear hnr HAvg hs
              go_wp2
              go_loopw [14, 135] (fun x i wr => ∃ k b d : Nat, k ≤ n ∧ i = .int .i64 k ∧ x = .float .f64 b ∧ At ts zs fs a n k 0 b ∧ wr = w1.drewN d) (fun _ i _ => n - (intOf i).toNat)
              case atStart => exact ⟨0, 0, 0, Nat.zero_le _, rfl, rfl, At.zero ts zs fs a n, rfl⟩
              case round =>
                obtain ⟨k1, b, d, hk1, rfl, rfl, hAt, rfl⟩ := hrel
                by_cases hlk : k1 < n
                · have HAt : Hid (At ts zs fs a n k1 (k1 + 1) b) := hAt.start
                  have i1 : (k1 : Int) < (n : Int) := by omega
                  clear hAt
                  go_wp2
                  go_loopw [14, 16] (fun x i wr => ∃ j b d : Nat, k1 < j ∧ j ≤ n ∧ i = .int .i64 j ∧ x = .float .f64 b ∧ At ts zs fs a n k1 j b ∧ wr = w1.drewN d) (fun _ i _ => n - (intOf i).toNat)
                  case atStart => exact ⟨k1 + 1, b, d, by omega, by omega, by go_num, rfl, HAt.out, rfl⟩
                  case round =>
                    clear HAt
                    obtain ⟨j, b, d, hkj, hjn, rfl, rfl, hAt, rfl⟩ := hrel
                    by_cases hlj : j < n
                    · have i2 : (j : Int) < (n : Int) := by omega
                      have HAt : Hid (At ts zs fs a n k1 j b) := hAt
                      clear hAt
                      cases hN : NN ts zs a k1 j with
                      | false =>
                        obtain ⟨v1, v2, cv1, cv2, HC⟩ := near_miss HPS.out hlk hlj hshort hN
                        have HAt' : Hid (At ts zs fs a n k1 (j + 1) b) := HAt.out.miss hN
                        have hg0 := gt_zero
                        clear HAt hN
                        go_wp2
                        go_region_held3 (fun w' => w'.cell? ⟨gR, 7, none⟩ = some (.slice (some ⟨gP, 0, none⟩) n n) ∧ w'.cell? ⟨gP, k1, none⟩ = some v1 ∧ w'.cell? ⟨gP, j, none⟩ = some v2) (exact ⟨c7, cv1, cv2⟩) (first | (go_at_call 23; refine (HC.out d).mono ?_; rintro e w' ⟨rfl, rfl⟩))
                        go_wp2
                        go_roundw
                        case rel => exact ⟨j + 1, b, d + 1, by omega, by omega, by go_num, rfl, HAt'.out, rfl⟩
                        case measure => simp [intOf]; omega
                      | true =>
                        obtain ⟨v1, v2, cv1, cv2, HC⟩ := near_hit HPS.out hlk hlj hshort hN
                        obtain ⟨bf, off, rfl, _, _, cf1⟩ := (HR.out.idfs.grown HG.out).at hlk
                        obtain ⟨bf', off', hbf, _, _, cf2⟩ := (HR.out.idfs.grown HG.out).at hlj
                        cases hbf
                        rw [vf_at fs k1 (by rw [HR.out.fl]; exact hlk)] at cf1
                        rw [vf_at fs j (by rw [HR.out.fl]; exact hlj)] at cf2
                        have hm1 := min_run (HFs.out k1 hlk).1 (HFs.out j hlj).1
                        have HHit : Hid (∀ s, Fl.Sat s → ∃ t r, Ieee.double.mul (Fl.fmin (fs.getD k1 0) (fs.getD j 0)) s = some t ∧ Ieee.double.add b t = some r ∧ At ts zs fs a n k1 (j + 1) r) := fun s hs => HAt.out.hit hkj hlj hfew hN (HFs.out k1 hlk) (HFs.out j hlj) hs
                        obtain ⟨mn, hmn⟩ : ∃ mn, mn = Fl.fmin (fs.getD k1 0) (fs.getD j 0) := ⟨_, rfl⟩
                        obtain ⟨q1, hq1⟩ : ∃ q1, q1 = fs.getD k1 0 := ⟨_, rfl⟩
                        obtain ⟨q2, hq2⟩ : ∃ q2, q2 = fs.getD j 0 := ⟨_, rfl⟩
                        rw [← hmn] at hm1 HHit
                        rw [← hq1] at cf1 hm1
                        rw [← hq2] at cf2 hm1
                        clear HAt hN hmn hq1 hq2
                        go_wp2
                        go_region_held3 (fun w' => w'.cell? ⟨gR, 7, none⟩ = some (.slice (some ⟨gP, 0, none⟩) n n) ∧ w'.cell? ⟨gP, k1, none⟩ = some v1 ∧ w'.cell? ⟨gP, j, none⟩ = some v2) (exact ⟨c7, cv1, cv2⟩) (first | (go_at_call 23; refine (HC.out d).mono ?_; rintro e w' ⟨r, rfl, HRr, hgt, rfl⟩))
                        go_wp2
                        go_region_held3 (fun w' => w'.cell? ⟨gR, 1, none⟩ = some (.slice (some ⟨bf, off, none⟩) n cf) ∧ w'.cell? ⟨bf, off + k1, none⟩ = some (.float .f64 q1) ∧ w'.cell? ⟨bf, off + j, none⟩ = some (.float .f64 q2)) (exact ⟨c1, cf1, cf2⟩) (first | (go_at_call 24; refine (sat_any r nr0 HRr.out.1 HRr.out.2.1 HRr.out.2.2 HN.out _).mono ?_; rintro e w' ⟨sr, rfl, hsr, rfl⟩; obtain ⟨t, r2, g1, g2, g3⟩ := HHit.out sr hsr; have y1 := fl_run (op := .mul) g1; have y2 := fl_run (op := .add) g2; have HAt' : Hid (At ts zs fs a n k1 (j + 1) r2) := g3; clear g1 g2 g3 hsr))
                        all_goals
                          go_wp2
                          go_roundw
                          case rel => exact ⟨j + 1, r2, d + 2, by omega, by omega, by go_num, rfl, HAt'.out, rfl⟩
                          case measure => simp [intOf]; omega
                    · have hjn' : j = n := by omega
                      subst hjn'
                      have HAt : Hid (At ts zs fs a j (k1 + 1) 0 b) := hAt.next
                      clear hAt
                      go_wp2
                      go_roundw
                      case rel => exact ⟨k1 + 1, b, d, by omega, by go_num, rfl, HAt.out, rfl⟩
                      case measure => simp [intOf]; omega
                · have hkn : k1 = n := by omega
                  subst hkn
                  have HAt : Hid (At ts zs fs a k1 k1 0 b) := hAt
                  clear hAt
                  go_wp2
                  go_ret
                  exact ⟨b, rfl, HAt.out, HGd.out d⟩
end Go.Proofs.Qxb6609269aMods
