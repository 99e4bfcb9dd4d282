/-
  Seat b6609269aM: slices.Index (32), slices.Contains (21), lengthNorm (22), saturated (24).
-/
import Derived.Test.Qxb6609269aModsParts
namespace Go.Proofs.Qxb6609269aMods
open Go.RowKit

def hasB (zs : List Int) (x : Int) : Bool := zs.contains x
theorem hasB_nil (x : Int) : hasB [] x = false := rfl
theorem hasB_snoc (zs : List Int) (y x : Int) : hasB (zs ++ [y]) x = (hasB zs x || x == y) := by
  by_cases h2 : x = y
  · subst h2; simp [hasB]
  · simp [hasB, h2]
theorem hasB_mem {zs : List Int} {x : Int} (h : x ∈ zs) : hasB zs x = true := by simpa [hasB] using h
theorem take_snoc {α : Type} (zs : List α) (d : α) (k : Nat) (hk : k < zs.length) : zs.take (k + 1) = zs.take k ++ [zs.getD k d] := by
  rw [List.take_add_one, List.getElem?_eq_getElem hk]; simp [List.getElem?_eq_getElem hk]
theorem getD_mem {zs : List Int} {k : Nat} (h : k < zs.length) : zs.getD k 0 ∈ zs := by simp [List.getElem?_eq_getElem h]

set_option maxRecDepth 100000 in
theorem index_any (a : Option Addr) (n c : Nat) (zs : List Int) (x : Int) (w : World) (hn : n ≤ 1048576) (hz : Lies w a n (vi zs)) :
    Calls Trym.prog 32 #[.slice a n c, .int .i32 x] w fun e w' => ∃ r : Int, e = .returned (.int .i64 r) ∧ (0 ≤ r) = (hasB zs x = true) ∧ -1 ≤ r ∧ w' = w := by
  have hlen : zs.length = n := by have := hz.1; rwa [vi_len] at this
  have HZ : Hid (Lies w a n (vi zs)) := hz
  clear hz
  go_enter Trym.func32, Trym.ntmps32
  go_wp2
  go_loop [8] (fun i => ∃ k : Nat, k ≤ n ∧ i = .int .i64 k ∧ hasB (zs.take k) x = false) (fun i => n - (intOf i).toNat)
  case atStart => exact ⟨0, Nat.zero_le _, rfl, rfl⟩
  case round =>
    obtain ⟨k, hk, rfl, hno⟩ := hrel
    by_cases hlt : k < n
    · obtain ⟨b, off, rfl, _, hcx⟩ := HZ.out.at hlt
      rw [vi_at zs k (by omega)] at hcx
      have HS : Hid (hasB (zs.take (k + 1)) x = (hasB (zs.take k) x || x == zs.getD k 0)) := by
        show _ = _
        rw [take_snoc zs 0 k (by omega), hasB_snoc]
      have HM : Hid (zs.getD k 0 ∈ zs) := getD_mem (by omega)
      have HN : Hid (hasB (zs.take k) x = false) := hno
      obtain ⟨y, hy⟩ : ∃ y, y = zs.getD k 0 := ⟨_, rfl⟩
      rw [← hy] at hcx HS HM
      clear hno hy
      by_cases hyx : x = y
      · have hb : (x == y) = true := by simp [hyx]
        have HF : Hid (hasB zs x = true) := by show hasB zs x = true; rw [hyx]; exact hasB_mem HM.out
        clear hyx
        go_wp2
        go_ret
        exact ⟨(k : Int), rfl, by rw [HF.out]; simp, by omega, rfl⟩
      · have hb : (x == y) = false := by simp [hyx]
        have HX : Hid ((x == y) = false) := hb
        clear hyx
        go_wp2
        go_round
        case rel => exact ⟨k + 1, by omega, by go_num, by rw [HS.out, HN.out, HX.out]; rfl⟩
        case measure => simp [intOf]; omega
    · have hkn : k = n := by omega
      have HF : Hid (hasB zs x = false) := by
        show hasB zs x = false
        rw [← hno, hkn, List.take_of_length_le (by omega)]
      clear hno
      go_wp2
      go_ret
      exact ⟨-1, rfl, by rw [HF.out]; simp, by omega, rfl⟩

theorem contains_any (a : Option Addr) (n c : Nat) (zs : List Int) (x : Int) (w : World) (hn : n ≤ 1048576) (hz : Lies w a n (vi zs)) :
    Calls Trym.prog 21 #[.slice a n c, .int .i32 x] w fun e w' => e = .returned (.bool (hasB zs x)) ∧ w' = w := by
  go_enter Trym.func21, Trym.ntmps21
  go_wp2_with fail
  refine (index_any a n c zs x w hn hz).mono ?_
  rintro e w' ⟨r, rfl, hr, hr1, rfl⟩
  cases hh : hasB zs x with
  | true =>
    rw [hh] at hr
    have h0 : 0 ≤ r := by simpa using hr
    have HH : Hid (hasB zs x = true) := hh
    clear hr hz hh
    go_wp2
    go_ret
    exact ⟨by rw [HH.out]; rfl, rfl⟩
  | false =>
    rw [hh] at hr
    have h0 : ¬ 0 ≤ r := by simpa using hr
    have h1 : decide (0 ≤ r) = false := by simpa using h0
    have HH : Hid (hasB zs x = false) := hh
    clear hr hz hh
    go_wp2
    go_ret
    exact ⟨by rw [HH.out]; rfl, rfl⟩

/-! ### floats -/
theorem fl_run {op : BinOp} {x y r : Nat} (h : floatBits op .f64 x y = some r) (w : World) : (binOp op 27 (.float .f64 x) (.float .f64 y)).run Trym.prog w = .ok (.float .f64 r) w := run_float_arith (P := Trym.prog) w op 27 .f64 x y r h
theorem conv_eq (n : Nat) : floatOfInt .f64 (n : Int) = Fl.conv n := by
  show Ieee.double.write (.number (decide ((n : Int) < 0)) (n : Int).natAbs 0) = _
  rw [decide_eq_false (by omega), Int.natAbs_natCast]
  rfl
theorem cvt_run (src : TypeId) (q : IntKind) (n : Nat) (hs : (Trym.prog.underlying src).isSome = true) (w : World) : (convert src 27 (.int q (n : Int))).run Trym.prog w = .ok (.float .f64 (Fl.conv n)) w := by
  rw [run_convert_int_float (P := Trym.prog) w src 27 q .f64 (n : Int) hs Trym.underlying27, conv_eq]

/-- an average that the law lets by -/
def Avg (a : Nat) : Prop := (Fl.Fin a ∧ Fl.W 1054 ≤ Fl.V a) ∨ a = 9218868437227405312
/-- a scaling by length -/
def Nrm (r : Nat) : Prop := Fl.Fin r ∧ Fl.W 1071 ≤ Fl.V r ∧ Fl.V r ≤ Fl.W 1130

theorem norm_any (len : Nat) (hl : len ≤ 1073741824) (a : Nat) (ha : Avg a) (w : World) :
    Calls Trym.prog 22 #[.int .i32 len, .float .f64 a] w fun e w' => ∃ r, e = .returned (.float .f64 r) ∧ Nrm r ∧ w' = w := by
  obtain ⟨m, q, r, h1, h2, h3, h4⟩ := Fl.norm_law len hl a ha
  have r0 := cvt_run 21 .i32 len (by rw [Trym.underlying21]; rfl)
  have r1 := fl_run (op := .mul) h1
  have r2 := fl_run (op := .quo) h2
  have r3 := fl_run (op := .add) h3
  obtain ⟨cl, hcl⟩ : ∃ cl, cl = Fl.conv len := ⟨_, rfl⟩
  rw [← hcl] at r0 r1
  have H4 : Hid (Nrm r) := h4
  clear h1 h2 h3 h4 ha hcl
  go_enter Trym.func22, Trym.ntmps22
  go_wp2
  go_ret
  exact ⟨r, rfl, H4.out, rfl⟩

theorem sat_any (f nrm : Nat) (hf : Fl.Fin f) (f1 : Fl.W 1068 ≤ Fl.V f) (f2 : Fl.V f ≤ Fl.W 1101) (hn : Nrm nrm) (w : World) :
    Calls Trym.prog 24 #[.float .f64 f, .float .f64 nrm] w fun e w' => ∃ r, e = .returned (.float .f64 r) ∧ Fl.Sat r ∧ w' = w := by
  obtain ⟨a, b, d, r, h1, h2, h3, h4, h5, h6, h7⟩ := Fl.sat_law hf f1 f2 hn.1 hn.2.1 hn.2.2
  have r1 := fl_run (op := .mul) h1
  have r2 := fl_run (op := .mul) h2
  have r3 := fl_run (op := .add) h3
  have r4 := fl_run (op := .quo) h4
  have H4 : Hid (Fl.Sat r) := ⟨h5, h6, h7⟩
  clear h1 h2 h3 h4 h5 h6 h7 hf f1 f2 hn
  go_enter Trym.func24, Trym.ntmps24
  go_wp2
  go_ret
  exact ⟨r, rfl, H4.out, rfl⟩
end Go.Proofs.Qxb6609269aMods
