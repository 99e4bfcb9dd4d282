/-
  Seat b6609269aM: nearness below two words; ZZnearness (13); the bound on sizes (7); what the calls of the statement's function leave.
-/
import Derived.Test.Qxb6609269aModsNess
namespace Go.Proofs.Qxb6609269aMods
open Go.RowKit

theorem At.few {ts : List (List Int)} {zs : List Int} {fs : List Nat} {m n : Nat} (h : n < 2) : At ts zs fs m n n 0 0 := by
  rcases (by omega : n = 0 ∨ n = 1) with rfl | rfl
  · exact At.zero ts zs fs m 0
  · exact (At.zero ts zs fs m 1).start.next

set_option maxRecDepth 100000 in
theorem ness_few {w : World} {gW gM gP gR gE n m : Nat} {ts : List (List Int)} {zs : List Int} {fs : List Nat} {avg : Nat} {xs : List Value} {af : Option Addr} {cf : Nat} {aq : Option Addr} {cs l0 l1 l2 l3 : Nat}
    (h : Ready w gW gM gP gR gE n m ts zs fs avg xs af cf aq cs l0 l1 l2 l3) (hn2 : n < 2) :
    Calls Trym.prog 18 #[.pointer (some ⟨gR, 0, none⟩), .pointer (some ⟨gE, 0, none⟩)] w fun e w' => e = .returned (.float .f64 0) ∧ w' = w := by
  obtain ⟨c0, c1, c6, c7, cM, cE, e19, e20, e21, e22⟩ := h.cells (World.grownBy.refl w _)
  clear h c1 c6 c7 cE e19 e20 e21 e22
  go_enter Trym.func18, Trym.ntmps18
  go_wp2
  go_ret
  exact ⟨rfl, rfl⟩

theorem shim_any {w : World} {gW gM gP gR gE n m : Nat} {ts : List (List Int)} {zs : List Int} {fs : List Nat} {avg : Nat} {xs : List Value} {af : Option Addr} {cf : Nat} {aq : Option Addr} {cs l0 l1 l2 l3 : Nat}
    (h : Ready w gW gM gP gR gE n m ts zs fs avg xs af cf aq cs l0 l1 l2 l3) (hP : Blk w gP 41 (List.replicate n (.slice none 0 0))) (hl : l0 ≤ 268435456 ∧ l1 ≤ 268435456 ∧ l2 ≤ 268435456 ∧ l3 ≤ 268435456) (havg : Avg avg) (hfs : ∀ i, i < n → Fl.Idf (fs.getD i 0)) :
    Calls Trym.prog 13 #[.pointer (some ⟨gR, 0, none⟩), .pointer (some ⟨gE, 0, none⟩)] w fun e w' => ∃ x, e = .returned (.float .f64 x) ∧ At ts zs fs m n n 0 x ∧ w.grownBy w' (some gP) := by
  by_cases hn2 : n < 2
  · have HR : Hid (Ready w gW gM gP gR gE n m ts zs fs avg xs af cf aq cs l0 l1 l2 l3) := h
    clear h hP hl havg hfs
    go_enter Trym.func13, Trym.ntmps13
    go_wp2_with fail
    refine (ness_few HR.out hn2).mono ?_
    rintro e w' ⟨rfl, rfl⟩
    go_wp2
    go_ret
    exact ⟨0, rfl, At.few hn2, World.grownBy.refl _ _⟩
  · have HR : Hid (Ready w gW gM gP gR gE n m ts zs fs avg xs af cf aq cs l0 l1 l2 l3) := h
    have H2 : Hid (Blk w gP 41 (List.replicate n (.slice none 0 0)) ∧ Avg avg ∧ ∀ i, i < n → Fl.Idf (fs.getD i 0)) := ⟨hP, havg, hfs⟩
    have H3 : Hid (l0 ≤ 268435456 ∧ l1 ≤ 268435456 ∧ l2 ≤ 268435456 ∧ l3 ≤ 268435456) := hl
    clear h hP hl havg hfs
    go_enter Trym.func13, Trym.ntmps13
    go_wp2_with fail
    refine (ness_any HR.out (by omega) H2.out.1 H3.out H2.out.2.1 H2.out.2.2).mono ?_
    rintro e w' ⟨x, rfl, hx, hg⟩
    have HX : Hid (At ts zs fs m n n 0 x) := hx
    have HG : Hid (w.grownBy w' (some gP)) := hg
    clear hx hg
    go_wp2
    go_ret
    exact ⟨x, rfl, HX.out, HG.out⟩

def IsBool (e : Ending) : Prop := ∃ b, e = .returned (.bool b)
set_option maxHeartbeats 1600000 in
theorem zz_any (a1 : Option Addr) (n c1 : Nat) (ts : List (List Int)) (a2 : Option Addr) (nf c2 avg : Nat) (a3 : Option Addr) (m c3 : Nat) (l0 l1 l2 l3 : Int) (w : World) (hT : Terms w.heap.size w a1 n ts) :
    Calls Trym.prog 7 #[.slice a1 n c1, .slice a2 nf c2, .float .f64 avg, .slice a3 m c3, .agg #[.int .i32 l0, .int .i32 l1, .int .i32 l2, .int .i32 l3]] w fun e w' => IsBool e ∧ Below w.heap.size w w' := by
  have HT : Hid (Terms w.heap.size w a1 n ts) := hT
  have HB : Hid (∀ o, Below w.heap.size w (w.alloc o)) := fun o => (Below.refl _ _).alloc (Nat.le_refl _) o
  clear hT
  by_cases h1 : n ≤ 1048576
  · go_enter Trym.func7, Trym.ntmps7
    go_wp2
    go_loop [11, 12] (fun s i => ∃ k t : Nat, k ≤ n ∧ i = .int .i64 k ∧ s = .int .i64 (t : Int) ∧ t ≤ 1048576) (fun _ i => n - (intOf i).toNat)
    case atStart => exact ⟨0, n, Nat.zero_le _, rfl, by go_num, h1⟩
    case round =>
      obtain ⟨k, t, hk, rfl, rfl, ht⟩ := hrel
      by_cases hlt : k < n
      · obtain ⟨b, off, ai, ci, rfl, hb, hc, _, _⟩ := HT.out.at hlt
        have i1 : (k : Int) < (n : Int) := by omega
        obtain ⟨ln, hln⟩ : ∃ ln, ln = (ts.getD k []).length := ⟨_, rfl⟩
        rw [← hln] at hc
        clear hln
        by_cases h2 : ln ≤ 1048576
        · by_cases h3 : t + ln ≤ 1048576
          · go_wp2
            go_round
            case rel => exact ⟨k + 1, t + ln, by omega, by go_num, by go_num, h3⟩
            case measure => simp [intOf]; omega
          · go_wp2
            go_ret
            exact ⟨⟨_, rfl⟩, HB.out _⟩
        · go_wp2
          go_ret
          exact ⟨⟨_, rfl⟩, HB.out _⟩
      · by_cases h2 : nf ≤ 1048576
        · by_cases h3 : t + nf ≤ 1048576
          · by_cases h4 : m ≤ 1048576
            · by_cases h5 : t + nf + m ≤ 1048576
              · go_wp2
                go_ret
                exact ⟨⟨_, rfl⟩, HB.out _⟩
              · go_wp2
                go_ret
                exact ⟨⟨_, rfl⟩, HB.out _⟩
            · go_wp2
              go_ret
              exact ⟨⟨_, rfl⟩, HB.out _⟩
          · go_wp2
            go_ret
            exact ⟨⟨_, rfl⟩, HB.out _⟩
        · go_wp2
          go_ret
          exact ⟨⟨_, rfl⟩, HB.out _⟩
  · go_enter Trym.func7, Trym.ntmps7
    go_wp2
    go_ret
    exact ⟨⟨_, rfl⟩, HB.out _⟩

theorem Rnk.below {w w' : World} {gW gM gP gR n : Nat} {af : Option Addr} {nf cf avg : Nat} {xs : List Value} (h : Rnk w gW gM gP gR n af nf cf avg xs) (hb : Below w.heap.size w w') : Rnk w' gW gM gP gR n af nf cf avg xs := by
  obtain ⟨r1, r2, r3, r4, r5, r6⟩ := h
  exact ⟨r1.below hb r1.lt, r2.below hb r2.lt, r3.below hb r3.lt, r4, r5, r6⟩

theorem ready_made {w5 w6 w7 w8 : World} {gM gP gR gE n m : Nat} {ts : List (List Int)} {zs : List Int} {fs : List Nat} {avg : Nat} {xs : List Value} {af : Option Addr} {cf : Nat} {aq : Option Addr} {l0 l1 l2 l3 : Nat}
    (hR : Rnk w6 w5.heap.size gM gP gR n af n cf avg xs) (hw : ∀ j, j < n → WordH w5 xs ts j) (hf : Lies w5 af n (vf fs)) (b56 : Below w5.heap.size w5 w6)
    (hq : Lies w7 aq m (vi zs)) (haq : ∀ y, aq = some y → w6.heap.size ≤ y.block) (b67 : Below w6.heap.size w6 w7)
    (hE : Blk w8 gE 64 (enCells aq m m l0 l1 l2 l3)) (hgE : w7.heap.size ≤ gE) (b78 : Below w7.heap.size w7 w8)
    (few : n ≤ 256) (short : m ≤ 4096) (tl : ∀ i, (ts.getD i []).length ≤ 256) (fl : fs.length = n) :
    Ready w8 w5.heap.size gM gP gR gE n m ts zs fs avg xs af cf aq m l0 l1 l2 l3 := by
  have b58 : Below w5.heap.size w5 w8 := b56.trans ((b67.mono b56.size).trans (b78.mono (Nat.le_trans b56.size b67.size)))
  have b68 : Below w6.heap.size w6 w8 := b67.trans (b78.mono b67.size)
  have s1 := b56.size
  have s2 := b67.size
  have s3 := b78.size
  have hlt : gR < w6.heap.size := hR.1.lt
  have ho := hR.2.2.2
  refine ⟨hR.below b68, hE, by omega, fun j hj => ?_, ?_, ?_, few, short, tl, ?_, fl⟩
  · obtain ⟨aj, cj, e1, e2⟩ := hw j hj
    exact ⟨aj, cj, e1, (LiesB.below e2 b58).liesX (by omega) (by omega)⟩
  · exact (LiesB.below hf b58).liesX (by omega) (by omega)
  · obtain ⟨q1, q2⟩ := LiesB.below hq b78
    refine ⟨q1, fun hn => ?_⟩
    obtain ⟨b, off, e, hb, hc⟩ := q2 hn
    have := haq _ e
    dsimp only at this
    exact ⟨b, off, e, by omega, by omega, hc⟩
  · have := hq.1
    rwa [vi_len] at this
end Go.Proofs.Qxb6609269aMods
