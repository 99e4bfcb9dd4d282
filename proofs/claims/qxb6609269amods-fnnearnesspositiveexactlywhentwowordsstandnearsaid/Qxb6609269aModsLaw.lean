/-
  Seat b6609269aM: the statement's frame (after the guide's shell for slices of integers, typed by hand for this function's five parameters), filled by 'top_any'.
-/
import Derived.Test.Qxb6609269aModsRows
import Derived.Test.Qxb6609269aModsTop
import Derived.Test.Qxb6609269aModsOpen
import Derived.WalkKit
import Derived.ProofKit
import Derived.OpenShut
import Derived.ShutString
import Derived.ChangeOld
import Derived.Below
import Derived.Carry
namespace Go.Proofs.Qxb6609269aMods.fnNearnessPositiveExactlyWhenTwoWordsStandNear
open Go.ChangeShapes Go.WideShapes Go.ChangeAt Go.RowKit
set_option linter.unusedVariables false

theorem own : ownKnob Trym.prog.godebug = none := by kernel_rfl
theorem laidOut : laidOutB Trym.prog = true := by kernel_rfl

set_option maxRecDepth 100000 in
theorem lifted (os : Os) (started : os.Started) (H : Type) (enc : TypeId × Value → H) :
    ReturnsInHanded {} Trym.checked os 5 .any (Rows.fnNearnessPositiveExactlyWhenTwoWordsStandNearSpec.pre6 enc Trym.prog Trym.f5 Rows.fnNearnessPositiveExactlyWhenTwoWordsStandNearRow.domain false) (Rows.fnNearnessPositiveExactlyWhenTwoWordsStandNearSpec.post enc Trym.prog Trym.f5 false true false false) := by
  refine returnsInHanded_of_change (C := Trym.checked) own started (by kernel_rfl) Trym.func5
    (ChangeSpec.witness6 (enc := enc) (C := Trym.checked) false ⟨#[], #[.slice none 0 0, .slice none 0 0, .float .f64 0, .slice none 0 0, .agg #[.int .i32 0, .int .i32 0, .int .i32 0, .int .i32 0]], []⟩ 8 (by kernel_rfl) (by kernel_rfl) (by kernel_rfl) (by kernel_rfl)) ?_
  intro W base args ds gs before hval0 hW hcnd _
  have hval : ∀ (j : Nat) t v, Trym.f5.params[j]? = some t → args[j]? = some v → Value.okWide Trym.prog W .any base t v := hval0
  have hW' := hW
  obtain ⟨p, q, hA0, hV, rfl, hfz, hnd⟩ := hW
  have hA : DataW.TrodAll enc Trym.prog W 0 (fun _ => true) true Trym.f5.params.toList args.toList ds p := hA0
  rw [Trym.params5] at hA hval
  obtain ⟨v0, vs0, d0, ds0, p0, q0, hargs, rfl, rfl, h0, r0⟩ := trodAll_cons hA
  obtain ⟨v1, vs1, d1, ds1, p1, q1, rfl, rfl, rfl, h1, r1⟩ := trodAll_cons r0
  obtain ⟨v2, vs2, d2, ds2, p2, q2, rfl, rfl, rfl, h2, r2⟩ := trodAll_cons r1
  obtain ⟨v3, vs3, d3, ds3, p3, q3, rfl, rfl, rfl, h3, r3⟩ := trodAll_cons r2
  obtain ⟨v4, vs4, d4, ds4, p4, q4, rfl, rfl, rfl, h4, r4⟩ := trodAll_cons r3
  obtain ⟨rfl, rfl, rfl⟩ := trodAll_nil r4
  obtain rfl : args = #[v0, v1, v2, v3, v4] := by cases args; simp_all
  obtain ⟨rfl, rfl⟩ := trodVars_none hV
  have k0 := h0
  have k1 := h1
  have k2 := h2
  have k3 := h3
  have k4 := h4
  have lt0 : ∀ x ∈ p0, x.block < W.heap.size := by obtain ⟨m, hm⟩ := k0; exact DataW.trod_lt m _ _ _ hm
  have lt1 : ∀ x ∈ p1, x.block < W.heap.size := by obtain ⟨m, hm⟩ := k1; exact DataW.trod_lt m _ _ _ hm
  have lt2 : ∀ x ∈ p2, x.block < W.heap.size := by obtain ⟨m, hm⟩ := k2; exact DataW.trod_lt m _ _ _ hm
  have lt3 : ∀ x ∈ p3, x.block < W.heap.size := by obtain ⟨m, hm⟩ := k3; exact DataW.trod_lt m _ _ _ hm
  have lt4 : ∀ x ∈ p4, x.block < W.heap.size := by obtain ⟨m, hm⟩ := k4; exact DataW.trod_lt m _ _ _ hm
  obtain ⟨a0, n0, c0, ts, e0, z0, t0⟩ : ∃ a n c ts, v0 = .slice a n c ∧ (a = none → n = 0 ∧ c = 0) ∧ Terms W.heap.size W a n ts := by
    obtain ⟨a, n, c, rfl⟩ := okWide_slice Trym.underlying25 (hval 0 25 v0 rfl rfl)
    obtain ⟨fuel, hf⟩ := h0
    exact terms_of hf
  obtain ⟨a1, n1, c1, fs, e1, z1, t1, u1⟩ : ∃ a n c fs, v1 = .slice a n c ∧ (a = none → n = 0 ∧ c = 0) ∧ Lies W a n (vf fs) ∧ ∀ i, fs.getD i 0 < 18446744073709551616 := by
    obtain ⟨a, n, c, rfl⟩ := okWide_slice Trym.underlying26 (hval 1 26 v1 rfl rfl)
    obtain ⟨fuel, hf⟩ := h1
    exact floats_of hf
  obtain ⟨avg, e2, u2⟩ : ∃ b, v2 = .float .f64 b ∧ b < 18446744073709551616 := by
    obtain ⟨b, rfl⟩ := okWide_float Trym.underlying27 (hval 2 27 v2 rfl rfl)
    obtain ⟨fuel, hf⟩ := h2
    exact float_of' Trym.underlying27 hf
  obtain ⟨a3, n3, c3, zs, e3, _, z3, t3⟩ : ∃ a n c zs, v3 = .slice a n c ∧ zs.length = n ∧ (a = none → n = 0 ∧ c = 0) ∧ Lies W a n (vi zs) := by
    obtain ⟨a, n, c, rfl⟩ := okWide_slice Trym.underlying28 (hval 3 28 v3 rfl rfl)
    obtain ⟨fuel, hf⟩ := h3
    exact ints_of hf
  obtain ⟨l0, l1, l2, l3, e4⟩ := arr_of Trym.underlying29 Trym.underlying21 (by kernel_rfl) (by kernel_rfl) (hval 4 29 v4 rfl rfl) h4
  subst e0 e1 e2 e3 e4
  clear hA0 hval0
  refine (top_any a0 n0 c0 ts a1 n1 c1 fs avg a3 n3 c3 zs l0 l1 l2 l3 W t0 z0 t1 z1 u1 u2 t3 z3).mono fun e W' ⟨he, bel⟩ => ?_
  subst he
  exact ⟨_, rfl, _, _, _, [], _, [], hW', trodAll_mk1 (shut_bool Trym.underlying4 _), (trodAll_cons_mk (Below.trod laidOut (by kernel_rfl) (of_decide_eq_true (by kernel_rfl)) k0 bel lt0) (trodAll_cons_mk (Below.trod laidOut (by kernel_rfl) (of_decide_eq_true (by kernel_rfl)) k1 bel lt1) (trodAll_cons_mk (Below.trod laidOut (by kernel_rfl) (of_decide_eq_true (by kernel_rfl)) k2 bel lt2) (trodAll_cons_mk (Below.trod laidOut (by kernel_rfl) (of_decide_eq_true (by kernel_rfl)) k3 bel lt3) (trodAll_cons_mk (Below.trod laidOut (by kernel_rfl) (of_decide_eq_true (by kernel_rfl)) k4 bel lt4) trodAll_mk0))))), rfl, bel.frame _, fun h => by cases h⟩

theorem over : Rows.fnNearnessPositiveExactlyWhenTwoWordsStandNearRow.holds Trym.pinned (OpenSpec.ofChange Rows.fnNearnessPositiveExactlyWhenTwoWordsStandNearSpec) :=
  OpenClaim.holds_of_wide 5 Trym.f5 rfl rfl rfl rfl rfl rfl rfl ⟨rfl, rfl, rfl, rfl, rfl⟩ rfl rfl rfl rfl rfl (by kernel_rfl) Trym.func5 (by kernel_rfl)
    (of_decide_eq_true (by kernel_rfl)) (by unfold Func.isWrapper; first | (rw [if_pos (by decide +kernel)]; kernel_rfl) | (rw [if_neg (by decide +kernel)]; exact ⟨rfl, rfl⟩))
    (fun os started H enc _ => lifted os started H enc)

theorem proved : Rows.FnNearnessPositiveExactlyWhenTwoWordsStandNearSaid := over
end Go.Proofs.Qxb6609269aMods.fnNearnessPositiveExactlyWhenTwoWordsStandNear

namespace Go.Proofs.Qxb6609269aMods
/-- The claim. -/
theorem nearnessLaw : Rows.FnNearnessPositiveExactlyWhenTwoWordsStandNearSaid := fnNearnessPositiveExactlyWhenTwoWordsStandNear.proved
end Go.Proofs.Qxb6609269aMods
