/-
  THE WALK of the law 'FnFormatCodeDistinguishesFormats' (function 6): (format).code (15), ZZFormatCode (12), clampPlacesB1 (13); strings.Repeat (16) by the shelf's contract.
-/
import Derived.Test.Qxb6603388aRows
import Derived.Test.Qxb6603388aShelf
import Derived.Test.Qxb6603388aCode
import Derived.WalkKit
import Derived.WalkSpells
import Derived.WalkLawsBesides
import Derived.Lib.Bytes
namespace Go.Proofs.Qxb6603388a.Law6
open Go.RowKit
open Go.Proofs.Qxb6603388a.Code
set_option linter.unusedVariables false
set_option linter.unusedSimpArgs false

/-- The code as a Go string. -/
def codeS (p : Int) (c : Bool) : ByteArray := ⟨(codeL p c).toArray⟩
theorem repeatL_one (c : UInt8) : ∀ n, Lib.repeatL [c] n = List.replicate n c
  | 0 => rfl
  | n + 1 => by
    show [c] ++ Lib.repeatL [c] n = _
    rw [repeatL_one c n]; rfl

theorem ret_str {a b : ByteArray} (h : a.data.toList = b.data.toList) : Ending.returned (.string a) = .returned (.string b) := by
  have : a = b := ByteArray.ext (Array.ext' h)
  rw [this]
theorem data_app (a b : ByteArray) : (a ++ b).data.toList = a.data.toList ++ b.data.toList := by
  rw [ByteArray.data_append]; simp

theorem code_none (p : Int) (c : Bool) (w : World) (hp : ¬ 0 < p) :
    Calls Try.prog 15 #[.agg #[.int .i32 p, .bool c]] w fun e w' => e = .returned (.string (codeS p c)) ∧ Below w.heap.size w w' := by
  cases c with
  | true =>
    go_enter Try.func15, Try.ntmps15
    go_wp2
    go_ret
    exact ⟨ret_str (by simp [data_app, codeS, codeL, show ¬ 0 < p by omega]), (Below.refl _ _).alloc (Nat.le_refl _) _⟩
  | false =>
    go_enter Try.func15, Try.ntmps15
    go_wp2
    go_ret
    exact ⟨ret_str (by simp [data_app, codeS, codeL, show ¬ 0 < p by omega]), (Below.refl _ _).alloc (Nat.le_refl _) _⟩

set_option maxRecDepth 100000 in
theorem code_some (n : Nat) (c : Bool) (w : World) (h0 : 0 < n) (hn : n ≤ 65536) :
    Calls Try.prog 15 #[.agg #[.int .i32 n, .bool c]] w fun e w' => e = .returned (.string (codeS n c)) ∧ Below w.heap.size w w' := by
  have h1 : (0 : Int) < (n : Int) := by omega
  cases c with
  | true =>
    go_enter Try.func15, Try.ntmps15
    go_wp2_with fail
    refine (Try.strings_Repeat ⟨#[48]⟩ n _ (by omega) (by show 1 * n ≤ _; omega)).mono ?_
    rintro e w1 ⟨rfl, hb⟩
    have hc : w1.cell? ⟨w.heap.size, 1, none⟩ = some (.bool true) := (hb.cell (by simp)).trans (by simp)
    have HB : Hid (Below w.heap.size w w1) := ((Below.refl _ w).alloc (Nat.le_refl _) _).trans (hb.mono (by simp))
    have HR := repeatL_one 48 n
    have e48 : (⟨#[48]⟩ : ByteArray).data.toList = [48] := rfl
    rw [e48]
    obtain ⟨R, hR⟩ : ∃ R : ByteArray, R = ⟨(Lib.repeatL [48] n).toArray⟩ := ⟨_, rfl⟩
    rw [← hR]
    have HR2 : Hid (R.data.toList = List.replicate n 48) := (show _ = _ by rw [hR, ← HR])
    have hRs : R.size ≤ 65536 := by rw [show R.size = R.data.toList.length from by simp, HR2.out]; simpa using hn
    clear hR HR hb e48
    go_wp2
    go_ret
    exact ⟨ret_str (by simp [data_app, HR2.out, codeS, codeL, h0]), HB.out⟩
  | false =>
    go_enter Try.func15, Try.ntmps15
    go_wp2_with fail
    refine (Try.strings_Repeat ⟨#[48]⟩ n _ (by omega) (by show 1 * n ≤ _; omega)).mono ?_
    rintro e w1 ⟨rfl, hb⟩
    have hc : w1.cell? ⟨w.heap.size, 1, none⟩ = some (.bool false) := (hb.cell (by simp)).trans (by simp)
    have HB : Hid (Below w.heap.size w w1) := ((Below.refl _ w).alloc (Nat.le_refl _) _).trans (hb.mono (by simp))
    have HR := repeatL_one 48 n
    have e48 : (⟨#[48]⟩ : ByteArray).data.toList = [48] := rfl
    rw [e48]
    obtain ⟨R, hR⟩ : ∃ R : ByteArray, R = ⟨(Lib.repeatL [48] n).toArray⟩ := ⟨_, rfl⟩
    rw [← hR]
    have HR2 : Hid (R.data.toList = List.replicate n 48) := (show _ = _ by rw [hR, ← HR])
    have hRs : R.size ≤ 65536 := by rw [show R.size = R.data.toList.length from by simp, HR2.out]; simpa using hn
    clear hR HR hb e48
    go_wp2
    go_ret
    exact ⟨ret_str (by simp [data_app, HR2.out, codeS, codeL, h0]), HB.out⟩

theorem code_any (p : Int) (c : Bool) (w : World) (hp : p ≤ 65536) :
    Calls Try.prog 15 #[.agg #[.int .i32 p, .bool c]] w fun e w' => e = .returned (.string (codeS p c)) ∧ Below w.heap.size w w' := by
  by_cases h : 0 < p
  · obtain ⟨n, rfl⟩ := Int.eq_ofNat_of_zero_le (show 0 ≤ p by omega)
    exact code_some n c w (by omega) (by omega)
  · exact code_none p c w h

theorem zz_any (p : Int) (c : Bool) (w : World) (hp : p ≤ 65536) :
    Calls Try.prog 12 #[.int .i32 p, .bool c] w fun e w' => e = .returned (.string (codeS p c)) ∧ Below w.heap.size w w' := by
  go_enter Try.func12, Try.ntmps12
  go_wp2_with (go_at_call 15; refine (code_any p c _ hp).mono ?_; rintro e w' ⟨rfl, hb⟩)
  go_ret
  exact ⟨rfl, hb⟩

theorem clamp_any (p : Int) (w : World) : Calls Try.prog 13 #[.int .i32 p] w fun e w' => e = .returned (.int .i32 (clamp p)) ∧ w = w' := by
  by_cases h : p < 0
  · go_enter Try.func13, Try.ntmps13
    go_wp2
    go_ret
    exact ⟨by simp [clamp, h], rfl⟩
  · go_enter Try.func13, Try.ntmps13
    go_wp2
    go_ret
    exact ⟨by unfold clamp; rw [if_neg (by omega)]; rfl, rfl⟩

theorem codeS_beq (p1 p2 : Int) (c1 c2 : Bool) : ((codeS p1 c1).toList == (codeS p2 c2).toList) = ((clamp p1 == clamp p2) && (c1 == c2)) := by
  rw [Lib.toList_data, Lib.toList_data]
  exact codeL_beq p1 p2 c1 c2

set_option maxHeartbeats 1000000 in
set_option maxRecDepth 100000 in
theorem walk_any (a0 : Int) (a1 : Bool) (a2 : Int) (a3 : Bool) (w : World) :
    Calls Try.prog 6 #[.int .i32 a0, .bool a1, .int .i32 a2, .bool a3] w fun e w' => e = .returned (.bool true) ∧ Below w.heap.size w w' := by
  by_cases h0 : a0 ≤ 65536
  · by_cases h2 : a2 ≤ 65536
    · have hq := codeS_beq a0 a2 a1 a3
      have HQ : Hid (((codeS a0 a1).toList == (codeS a2 a3).toList) = ((clamp a0 == clamp a2) && (a1 == a3))) := hq
      clear hq
      cases hcl : (clamp a0 == clamp a2)
      all_goals
        go_enter Try.func6, Try.ntmps6
        go_wp2_with fail
        refine (zz_any a0 a1 _ h0).mono ?_
        rintro e w1 ⟨rfl, hb1⟩
        go_wp2_with fail
        refine (zz_any a2 a3 _ h2).mono ?_
        rintro e w2 ⟨rfl, hb2⟩
        have HB : Hid (Below w.heap.size w w2) := hb1.trans (hb2.mono hb1.size)
        clear hb1 hb2
        go_wp2_with fail
        refine (clamp_any a0 _).mono ?_
        rintro e w3 ⟨rfl, rfl⟩
        go_wp2_with fail
        refine (clamp_any a2 _).mono ?_
        rintro e w3 ⟨rfl, rfl⟩
        go_wp2
        go_ret
        refine ⟨?_, HB.out⟩
        have hq := HQ.out
        rw [hcl] at hq
        simp [hq]
    · go_enter Try.func6, Try.ntmps6
      go_wp2
      go_ret
      exact ⟨rfl, Below.refl _ _⟩
  · go_enter Try.func6, Try.ntmps6
    go_wp2
    go_ret
    exact ⟨rfl, Below.refl _ _⟩

end Go.Proofs.Qxb6603388a.Law6
