/-
  Seat b6000764aM: what lies outside the walks: a look-up in a map of bools that the call made; the set as a datum; a slice of numbers as the walks see it; the plain prefix.
-/
import Derived.Test.Qxb6000764aModsProg
import Derived.WalkKit
import Derived.WalkLawsBesides
import Derived.WalkSpells
import Derived.Maps.OwnOps
import Derived.Maps.Views
import Derived.Deep.QuietTactic
import Derived.BigQuiet
namespace Go.Proofs.Qxb6000764aMods
open Go.RowKit Go.Maps

theorem Trym.info2 : (Trym.prog.info? 2).map (fun i => (i.zero, i.size, i.bytes)) = some (some (.int .i64 0), 1, 8) := by kernel_rfl
theorem law2 : Keyed Trym.prog 2 := int_keyed Trym.underlying2
theorem zero4 (w : World) : (zeroValue 4).run Trym.prog w = .ok (.bool false) w := by kernel_rfl
theorem mm_hint (n : Int) (w : World) : (Instr.makeMap 34 (some (.int .i64 n))).run Trym.prog w = .ok (.map (some w.heap.size)) (w.alloc (.map #[] 0)) := by kernel_rfl

/-! ### a look-up in a map of bools -/
theorem plainElem_bool_inv {H : Type} {P : Program} {e : TypeId} (he : P.underlying e = some .bool) {v : Value} {z : DataW H × List MemPlace} (h : plainElem P e v = some z) : ∃ x, v = .bool x ∧ z = (.lit (.bool x), []) := by
  unfold plainElem at h
  rw [he] at h
  cases v <;> simp at h
  subst h
  exact ⟨_, rfl, rfl⟩

theorem wpList_lookup_own_bool {H : Type} {P : Program} (w : World) {ops : Array Oper} {rest : List Oper} {o : Oper} {a : Act} {Q : Exit → Act → World → Prop}
    (hg : o.guard = none) (m x : Operand) (t : TypeId) (hop : o.op = Op.lookup t m x false)
    (k e : TypeId) (K : Keyed P k) (ht : P.underlying t = some (.map k e)) (he : P.underlying e = some .bool) (hz : (zeroValue e).run P w = .ok (.bool false) w) (b n : Nat) (D : DataW H)
    (hm : a.eval m = .map (some b)) (hown : w.ownsMap P k (plainElem P e) b n D) (key : Value) (kl : Lit) (hx : a.eval x = key) (hkey : keyOf P k key = some kl) (c : Bool)
    (hc : D.atKey kl (.lit (.bool false)) = .lit (.bool c))
    (hK : wpList P ops Q rest (a.put o.dst (.bool c)) w) :
    wpList P ops Q (o :: rest) a w := by
  refine wpList_plain hg fun K' hK' => ?_
  obtain ⟨v, ps, hrun, hv⟩ := hown.lookup K ht hz (plainElem_bool he false) hkey
  obtain ⟨c', rfl, hcc⟩ := plainElem_bool_inv he hv
  simp only [Prod.mk.injEq] at hcc
  have e1 : c' = c := by have := hcc.1.symm.trans hc; simpa using this
  subst e1
  unfold Oper.wp
  simp [execOp, hop, hm, hx, hrun, Result.andThen]
  exact hK' _ _ hK

/-! ### is x among zs? (a plain name, so that the walk's rules leave it alone) -/
def heldB (zs : List Int) (x : Int) : Bool := zs.contains x
theorem heldB_nil (x : Int) : heldB [] x = false := rfl
theorem heldB_snoc (zs : List Int) (y x : Int) : heldB (zs ++ [y]) x = (heldB zs x || y == x) := by
  by_cases h2 : x = y
  · subst h2; simp [heldB]
  · have h3 : (y == x) = false := by simp; exact fun e => h2 e.symm
    simp [heldB, h2, h3]
theorem heldB_mem {zs : List Int} {x : Int} (h : x ∈ zs) : heldB zs x = true := by simpa [heldB] using h

/-! ### the set -/
def Sd (ls : List Int) : DataW Unit := ls.foldl (fun D x => D.put (.int .i64 x) (.lit (.bool true))) (.map [])
theorem Sd_snoc (ls : List Int) (x : Int) : Sd (ls ++ [x]) = (Sd ls).put (.int .i64 x) (.lit (.bool true)) := by simp [Sd, List.foldl_append]
theorem foldl_isMap : ∀ (ls : List Int) (D : DataW Unit), IsMap D → IsMap (ls.foldl (fun D x => D.put (.int .i64 x) (.lit (.bool true))) D)
  | [], _, h => h
  | x :: r, D, h => by rw [List.foldl_cons]; exact foldl_isMap r _ (h.put _ _)
theorem foldl_at : ∀ (ls : List Int) (D : DataW Unit) (c : Bool) (y : Int), IsMap D → D.atKey (.int .i64 y) (.lit (.bool false)) = .lit (.bool c) →
    (ls.foldl (fun D x => D.put (.int .i64 x) (.lit (.bool true))) D).atKey (.int .i64 y) (.lit (.bool false)) = .lit (.bool (c || ls.contains y))
  | [], _, _, _, _, h => by simpa using h
  | x :: r, D, c, y, hm, h => by
    rw [List.foldl_cons]
    by_cases e : y = x
    · subst e
      rw [foldl_at r _ true y (hm.put _ _) (atKey_put_same hm (k := .int .i64 y) trivial _ _)]
      simp
    · rw [foldl_at r _ c y (hm.put _ _) (by rw [atKey_put_other (by simpa using e)]; exact h)]
      simp [e]
theorem Sd_at (ls : List Int) (y : Int) : (Sd ls).atKey (.int .i64 y) (.lit (.bool false)) = .lit (.bool (heldB ls y)) := by
  have := foldl_at ls (.map []) false y isMap_empty rfl
  simpa [Sd, heldB] using this

/-! ### a slice of numbers as the walks see it: n elements zs; where there is one, it lies at b, off -/
def Lies (w : World) (a : Option Addr) (n : Nat) (zs : List Int) : Prop :=
  zs.length = n ∧ (∀ x ∈ zs, (Lit.int .i64 x).wf = true) ∧ (0 < n → ∃ b off, a = some ⟨b, off, none⟩ ∧ b < w.heap.size ∧ ∀ j, j < n → w.cell? ⟨b, off + j, none⟩ = some (.int .i64 (zs.getD j 0)))

theorem Lies.below {w w' : World} {a : Option Addr} {n : Nat} {zs : List Int} (h : Lies w a n zs) (hb : Below w.heap.size w w') : Lies w' a n zs := by
  obtain ⟨h1, h2, h3⟩ := h
  refine ⟨h1, h2, fun hn => ?_⟩
  obtain ⟨b, off, e, hlt, hc⟩ := h3 hn
  exact ⟨b, off, e, Nat.lt_of_lt_of_le hlt hb.size, fun j hj => (hb.cell (p := ⟨b, off + j, none⟩) hlt).trans (hc j hj)⟩

/-! ### the plain answer: the longest prefix whose elements are all held -/
def pre (ls zs : List Int) : List Int := zs.takeWhile (heldB ls)
theorem take_snoc (zs : List Int) (k : Nat) (hk : k < zs.length) : zs.take (k + 1) = zs.take k ++ [zs.getD k 0] := by
  rw [List.take_add_one, List.getElem?_eq_getElem hk]; simp [List.getElem?_eq_getElem hk]
end Go.Proofs.Qxb6000764aMods
