/-
  Seat b6003647aM: what lies between the walks and the plain mathematics: bits and wraps, blocks of an array.
-/
import Derived.Test.Qxb6003647aModsPlainTwo
import Derived.Test.Qxb6003647aModsProg
import Derived.WalkKit
import Derived.WalkLawsBesides
import Derived.WalkSpells
import Derived.Deep.QuietTactic
import Derived.BigQuiet
import Derived.Laws.Rows
import Derived.Laws.Tables
import Derived.Laws.BitsAllLaws
import Derived.Laws.Bits128
namespace Go.Proofs.Qxb6003647aMods
open Go.RowKit

theorem Trym.info5 : (Trym.prog.info? 5).map (fun i => (i.zero, i.size, i.bytes)) = some (some (.int .u8 0), 1, 1) := by kernel_rfl
theorem size24 : (Trym.prog.info? 24).map (·.size) = some 43 := by kernel_rfl
theorem size26 : (Trym.prog.info? 26).map (·.size) = some 40 := by kernel_rfl

/-- the m-th byte of the scalar, from its little end -/
def lb (zs : List Int) (m : Nat) : Int := zs.getD (31 - m) 0
def Bytes (zs : List Int) : Prop := ∀ j : Nat, 0 ≤ zs.getD j 0 ∧ zs.getD j 0 ≤ 255
theorem lb_bd {zs : List Int} (h : Bytes zs) (m : Nat) : 0 ≤ lb zs m ∧ lb zs m ≤ 255 := h (31 - m)

theorem u8_and1 (x : Int) (h0 : 0 ≤ x) (h1 : x ≤ 255) : bits .and .u8 x 1 = x % 2 := by
  rw [u8_and x 1 h0 (by omega) (by omega) (by omega), show (1 : Int).toNat = 1 from rfl, nat_mask1]
  omega
theorem i64_and255 (n : Int) : bits .and .i64 n 255 = n % 256 := by
  have h255 : (BitVec.ofInt 64 255).toNat = 2 ^ 8 - 1 := by decide
  have key : (BitVec.ofInt 64 n &&& BitVec.ofInt 64 255).toNat = (n % ((2 ^ 64 : Nat) : Int)).toNat % 2 ^ 8 := by
    rw [BitVec.toNat_and, BitVec.toNat_ofInt, h255, Nat.and_two_pow_sub_one_eq_mod]
  show IntKind.i64.wrap ((BitVec.ofInt 64 n &&& BitVec.ofInt 64 255).toNat : Nat) = n % 256
  rw [key, IntKind.wrap_i64]
  omega

theorem wrap_id (x : Int) (h0 : -4611686018427387904 ≤ x) (h1 : x ≤ 4611686018427387904) : wrap64 x = x := by
  unfold wrap64; omega

theorem div_bd (v : Int) (r : Nat) (h0 : 0 ≤ v) (h1 : v ≤ 255) : 0 ≤ v / 2 ^ r ∧ v / 2 ^ r ≤ 255 := by
  have hp : (0 : Int) < 2 ^ r := Pl.two_pow_pos r
  refine ⟨Int.ediv_nonneg h0 (by omega), ?_⟩
  exact Int.le_trans (Int.ediv_le_self _ h0) h1

theorem bit_step (zs : List Int) (hz : Bytes zs) (k t : Nat) (ht : t < 6) (hb : k * 6 + t < 256) :
    wrap64 (Pl.cr (lb zs) k + Pl.win (lb zs) k t + wrap64 (wrap64 (bits .and .u8 (lb zs ((k * 6 + t) / 8) / 2 ^ ((k * 6 + t) % 8)) 1) * 2 ^ t)) = Pl.cr (lb zs) k + Pl.win (lb zs) k (t + 1) := by
  have hl := lb_bd hz ((k * 6 + t) / 8)
  have hd := div_bd _ ((k * 6 + t) % 8) hl.1 hl.2
  rw [u8_and1 _ hd.1 hd.2]
  have hbt : lb zs ((k * 6 + t) / 8) / 2 ^ ((k * 6 + t) % 8) % 2 = Pl.bt (lb zs) (k * 6 + t) := rfl
  rw [hbt]
  have h01 := Pl.bt_01 (lb zs) (k * 6 + t)
  have hc := Pl.cr_01 (lb zs) k
  have hw := Pl.win_bd (lb zs) k t
  have hw1 : Pl.win (lb zs) k (t + 1) = Pl.win (lb zs) k t + Pl.bt (lb zs) (k * 6 + t) * 2 ^ t := by
    show Pl.win (lb zs) k t + (if k * 6 + t < 256 then _ else _) = _
    rw [if_pos hb]
  rw [hw1]
  rw [wrap_id (Pl.bt (lb zs) (k * 6 + t)) (by omega) (by omega)]
  generalize Pl.bt (lb zs) (k * 6 + t) = x at *
  generalize Pl.win (lb zs) k t = y at *
  generalize Pl.cr (lb zs) k = z at *
  match t, ht with
  | 0, _ | 1, _ | 2, _ | 3, _ | 4, _ | 5, _ => rw [wrap_id (x * _) (by omega) (by omega), wrap_id _ (by omega) (by omega)]; omega

theorem lb_skip (zs : List Int) (k t : Nat) (hb : ¬ k * 6 + t < 256) : Pl.win (lb zs) k (t + 1) = Pl.win (lb zs) k t := by
  show Pl.win (lb zs) k t + (if k * 6 + t < 256 then _ else _) = _
  rw [if_neg hb, Int.add_zero]

theorem sum_bd (zs : List Int) (k t : Nat) (ht : t ≤ 6) : 0 ≤ Pl.cr (lb zs) k + Pl.win (lb zs) k t ∧ Pl.cr (lb zs) k + Pl.win (lb zs) k t ≤ 64 := by
  have hc := Pl.cr_01 (lb zs) k
  have hw := Pl.win_bd (lb zs) k t
  match t, ht with
  | 0, _ | 1, _ | 2, _ | 3, _ | 4, _ | 5, _ | 6, _ => omega

/-! ### a block that is an array of int -/
/-- block g of w is an array of n int cells that holds f -/
def Arr (w : World) (g : Nat) (t : TypeId) (n : Nat) (f : Nat → Int) : Prop :=
  ∃ cs : Array Value, w.heap[g]? = some (.cells cs t (0, 0)) ∧ cs.size = n ∧ ∀ j, j < n → cs[j]? = some (.int .i64 (f j))

theorem Arr.lt {w : World} {g : Nat} {t : TypeId} {n : Nat} {f : Nat → Int} (h : Arr w g t n f) : g < w.heap.size := by
  obtain ⟨cs, h1, _⟩ := h
  exact (Array.getElem?_eq_some_iff.1 h1).1
theorem Arr.cell {w : World} {g : Nat} {t : TypeId} {n : Nat} {f : Nat → Int} (h : Arr w g t n f) {j : Nat} (hj : j < n) : w.cell? ⟨g, j, none⟩ = some (.int .i64 (f j)) := by
  obtain ⟨cs, h1, h2, h3⟩ := h
  rw [cell_of_row w g j cs t (0, 0) h1]
  exact h3 j hj
theorem Arr.free {w : World} {g : Nat} {t : TypeId} {n : Nat} {f : Nat → Int} (h : Arr w g t n f) (j : Nat) : w.frozen? ⟨g, j, none⟩ = false := by
  obtain ⟨cs, h1, _⟩ := h
  exact frozen_of_row w g j cs t h1
theorem Arr.set {w : World} {g : Nat} {t : TypeId} {n : Nat} {f f' : Nat → Int} (h : Arr w g t n f) (k : Nat) (x : Int) (hx : f' k = x) (ho : ∀ j, j ≠ k → f' j = f j) : Arr (w.setCell ⟨g, k, none⟩ (.int .i64 x)) g t n f' := by
  obtain ⟨cs, h1, h2, h3⟩ := h
  refine ⟨_, heap_setCell_same w g k cs t _ h1, by simpa using h2, fun j hj => ?_⟩
  by_cases e : j = k
  · subst e
    rw [Array.getElem?_setIfInBounds_self, if_pos (by omega), hx]
  · rw [Array.getElem?_setIfInBounds_ne (by omega), h3 j hj, ho j e]
theorem Arr.other {w : World} {g : Nat} {t : TypeId} {n : Nat} {f : Nat → Int} (h : Arr w g t n f) {a : Addr} (hne : g ≠ a.block) (v : Value) : Arr (w.setCell a v) g t n f := by
  obtain ⟨cs, h1, h2, h3⟩ := h
  exact ⟨cs, (heap_setCell_other w a g v hne).trans h1, h2, h3⟩
theorem Arr.congr {w : World} {g : Nat} {t : TypeId} {n : Nat} {f f' : Nat → Int} (h : Arr w g t n f) (he : ∀ j, j < n → f' j = f j) : Arr w g t n f' := by
  obtain ⟨cs, h1, h2, h3⟩ := h
  exact ⟨cs, h1, h2, fun j hj => by rw [h3 j hj, he j hj]⟩
theorem Arr.drewN {w : World} {g : Nat} {t : TypeId} {n : Nat} {f : Nat → Int} (h : Arr w g t n f) (q : Nat) : Arr (w.drewN q) g t n f := h
theorem Arr.below {w w' : World} {g : Nat} {t : TypeId} {n : Nat} {f : Nat → Int} (h : Arr w g t n f) {B : Nat} (hb : Below B w w') (hg : g < B) : Arr w' g t n f := by
  obtain ⟨cs, h1, h2, h3⟩ := h
  exact ⟨cs, (hb.block g hg).trans h1, h2, h3⟩
theorem Arr.alloc {w : World} {g : Nat} {t : TypeId} {n : Nat} {f : Nat → Int} (h : Arr w g t n f) (o : Obj) : Arr (w.alloc o) g t n f := by
  have hl := h.lt
  obtain ⟨cs, h1, h2, h3⟩ := h
  exact ⟨cs, (heap_alloc_old w o hl).trans h1, h2, h3⟩
theorem Arr.new (w : World) (t : TypeId) (n : Nat) (cs : Array Value) (f : Nat → Int) (hs : cs.size = n) (hf : ∀ j, j < n → cs[j]? = some (.int .i64 (f j))) : Arr (w.alloc (.cells cs t)) w.heap.size t n f :=
  ⟨cs, heap_alloc_new w _, hs, hf⟩
theorem below_row {B : Nat} {a w : World} (h : Below B a w) {g : Nat} (hg : B ≤ g) (cs : Array Value) : Below B a (w.setRow g cs) :=
  h.trans ⟨rfl, rfl, rfl, by simp, fun k hk => setRow_other w g k cs (by omega)⟩
theorem Arr.zero (w : World) (t : TypeId) (n : Nat) : Arr (w.alloc (.cells (Array.replicate n (.int .i64 0)) t)) w.heap.size t n (fun _ => 0) :=
  Arr.new w t n _ _ (by simp) (fun j hj => by simp [hj])
theorem Arr.zero2 (w : World) (o : Obj) (t : TypeId) (n : Nat) : Arr ((w.alloc o).alloc (.cells (Array.replicate n (.int .i64 0)) t)) (w.heap.size + 1) t n (fun _ => 0) := by
  have h := Arr.zero (w.alloc o) t n
  rwa [show (w.alloc o).heap.size = w.heap.size + 1 from by simp] at h
theorem Arr.oneCell {n : Nat} {f : Nat → Int} {cs : Array Value} (h2 : cs.size = n) (h3 : ∀ j, j < n → cs[j]? = some (.int .i64 (f j))) : cs.all (·.oneCell') = true := by
  rw [Array.all_eq_true_iff_forall_mem]
  intro x hx
  obtain ⟨j, hj, rfl⟩ := Array.getElem_of_mem hx
  have := h3 j (by omega)
  rw [Array.getElem?_eq_getElem hj] at this
  rw [Option.some.inj this]
  rfl
end Go.Proofs.Qxb6003647aMods
