/-
  THE WALK of 'significant' (function 14) and 'ZZSignificant' (8).
-/
import Derived.Test.Qxb6603388aRows
import Derived.Test.Qxb6603388aDigits
import Derived.WalkKit
import Derived.WalkSpells
import Derived.WalkLawsBesides
namespace Go.Proofs.Qxb6603388a.Sign
open Go.RowKit
open Go.Proofs.Qxb6603388a.Dig
set_option linter.unusedVariables false
set_option linter.unusedSimpArgs false

/-- The digits among the first k bytes. -/
def D (s : ByteArray) (k : Nat) : List Int := digs (s.data.toList.take k)

theorem D_zero (s : ByteArray) : D s 0 = [] := by simp [D, digs]
theorem D_le (s : ByteArray) (k : Nat) : (D s k).length ≤ k := by
  have := digs_le (s.data.toList.take k)
  have h2 : (s.data.toList.take k).length ≤ k := List.length_take_le _ _
  unfold D
  omega
theorem D_yes (s : ByteArray) (k : Nat) (h : k < s.size) (h1 : 48 ≤ (s[k].toNat : Int)) (h2 : (s[k].toNat : Int) ≤ 57) : D s (k + 1) = D s k ++ [(s[k].toNat : Int)] := by
  unfold D; rw [take_snoc s k h]; exact digs_yes _ _ h1 h2
theorem D_low (s : ByteArray) (k : Nat) (h : k < s.size) (h1 : ¬ 48 ≤ (s[k].toNat : Int)) : D s (k + 1) = D s k := by
  unfold D; rw [take_snoc s k h]; exact digs_low _ _ h1
theorem D_high (s : ByteArray) (k : Nat) (h : k < s.size) (h1 : ¬ (s[k].toNat : Int) ≤ 57) : D s (k + 1) = D s k := by
  unfold D; rw [take_snoc s k h]; exact digs_high _ _ h1

/-- The digits of the whole text. -/
def ds (s : ByteArray) : List Int := digs s.data.toList
theorem D_all (s : ByteArray) (k : Nat) (h : s.size ≤ k) : D s k = ds s := by
  unfold D ds
  rw [List.take_of_length_le (by simpa using h)]

theorem step_first {s : ByteArray} {k m : Nat} {a b : Int} (hlt : k < s.size) (HL : Hid ((D s k).length = m)) (HS : Hid (St (D s k) a b)) (h1 : 48 ≤ (s[k].toNat : Int)) (h2 : (s[k].toNat : Int) ≤ 57) (h3 : ((s[k].toNat : Int) != 48) = true) (h4 : a < 0) :
    Hid ((D s (k + 1)).length = m + 1) ∧ Hid (St (D s (k + 1)) m m) := by
  have hl := HL.out
  have st := st_first HS.out h4 (bne_iff_ne.1 h3)
  rw [hl] at st
  unfold Hid
  rw [D_yes s k hlt h1 h2]
  exact ⟨by simp [hl], st⟩
theorem step_next {s : ByteArray} {k m : Nat} {a b : Int} (hlt : k < s.size) (HL : Hid ((D s k).length = m)) (HS : Hid (St (D s k) a b)) (h1 : 48 ≤ (s[k].toNat : Int)) (h2 : (s[k].toNat : Int) ≤ 57) (h3 : ((s[k].toNat : Int) != 48) = true) (h4 : 0 ≤ a) :
    Hid ((D s (k + 1)).length = m + 1) ∧ Hid (St (D s (k + 1)) a m) := by
  have hl := HL.out
  have st := st_next HS.out (by omega) (bne_iff_ne.1 h3)
  rw [hl] at st
  unfold Hid
  rw [D_yes s k hlt h1 h2]
  exact ⟨by simp [hl], st⟩
theorem step_zero {s : ByteArray} {k m : Nat} {a b : Int} (hlt : k < s.size) (HL : Hid ((D s k).length = m)) (HS : Hid (St (D s k) a b)) (h1 : 48 ≤ (s[k].toNat : Int)) (h2 : (s[k].toNat : Int) ≤ 57) (h3 : ((s[k].toNat : Int) != 48) = false) :
    Hid ((D s (k + 1)).length = m + 1) ∧ Hid (St (D s (k + 1)) a b) := by
  have hl := HL.out
  have st := st_zero HS.out
  have e : (s[k].toNat : Int) = 48 := by simpa using h3
  unfold Hid
  rw [D_yes s k hlt h1 h2, e]
  exact ⟨by simp [hl], st⟩
theorem step_skip {s : ByteArray} {k m : Nat} {a b : Int} (HL : Hid ((D s k).length = m)) (HS : Hid (St (D s k) a b)) (e : D s (k + 1) = D s k) : Hid ((D s (k + 1)).length = m) ∧ Hid (St (D s (k + 1)) a b) := by
  unfold Hid
  rw [e]
  exact ⟨HL.out, HS.out⟩

set_option maxHeartbeats 1000000 in
theorem sig_any (s : ByteArray) (w : World) (hs : s.size ≤ 1048576) :
    Calls Try.prog 14 #[.string s] w fun e w' => ∃ r : Int, e = .returned (.int .i64 r) ∧ Sig (ds s) r ∧ w = w' := by
  go_enter Try.func14, Try.ntmps14
  go_wp2
  go_loop [3, 4, 5, 6] (fun f l n i => ∃ (k m : Nat) (a b : Int), k ≤ s.size ∧ m ≤ k ∧ i = .int .i64 k ∧ n = .int .i64 m ∧ f = .int .i64 a ∧ l = .int .i64 b ∧ Hid ((D s k).length = m) ∧ Hid (St (D s k) a b)) (fun _ _ _ i => s.size - (intOf i).toNat)
  case atStart => exact ⟨0, 0, -1, -1, Nat.zero_le _, Nat.le_refl _, rfl, rfl, rfl, rfl, by rw [D_zero]; rfl, by rw [D_zero]; exact st_start⟩
  case round =>
    obtain ⟨k, m, a, b, hk, hm, rfl, rfl, rfl, rfl, HL, HS⟩ := hrel
    have hr := st_range HS.out
    rw [HL.out] at hr
    obtain ⟨hr1, hr2, hr3, hr4⟩ := hr
    by_cases hlt : k < s.size
    · go_wp2
      · have h := step_first hlt HL HS ‹_› ‹_› ‹_› ‹_›
        go_round
        case rel => exact ⟨k + 1, m + 1, m, m, by omega, by omega, by go_num, by go_num, rfl, rfl, h.1, h.2⟩
        case measure => simp [intOf]; omega
      · have h := step_next hlt HL HS ‹_› ‹_› ‹_› ‹_›
        go_round
        case rel => exact ⟨k + 1, m + 1, a, m, by omega, by omega, by go_num, by go_num, rfl, rfl, h.1, h.2⟩
        case measure => simp [intOf]; omega
      · have h := step_zero hlt HL HS ‹_› ‹_› ‹_›
        go_round
        case rel => exact ⟨k + 1, m + 1, a, b, by omega, by omega, by go_num, by go_num, rfl, rfl, h.1, h.2⟩
        case measure => simp [intOf]; omega
      · have h := step_skip HL HS (D_high s k hlt (by omega))
        go_round
        case rel => exact ⟨k + 1, m, a, b, by omega, by omega, by go_num, rfl, rfl, rfl, h.1, h.2⟩
        case measure => simp [intOf]; omega
      · have h := step_skip HL HS (D_low s k hlt (by omega))
        go_round
        case rel => exact ⟨k + 1, m, a, b, by omega, by omega, by go_num, rfl, rfl, rfl, h.1, h.2⟩
        case measure => simp [intOf]; omega
    · have hst := HS.out
      rw [D_all s k (by omega)] at hst
      have HS2 : Hid (St (ds s) a b) := hst
      clear hst HL HS
      go_wp2
      · go_ret
        exact ⟨0, rfl, st_none HS2.out ‹_›, rfl⟩
      · go_ret
        exact ⟨b - a + 1, rfl, st_done HS2.out (by omega), rfl⟩

theorem zz_any (s : ByteArray) (w : World) (hs : s.size ≤ 1048576) :
    Calls Try.prog 8 #[.string s] w fun e w' => ∃ r : Int, e = .returned (.int .i64 r) ∧ Sig (ds s) r ∧ w = w' := by
  go_enter Try.func8, Try.ntmps8
  go_wp2_with (go_at_call 14; refine (sig_any s _ hs).mono ?_; rintro e w' ⟨r, rfl, hr, rfl⟩)
  go_ret
  exact ⟨r, rfl, hr, rfl⟩

end Go.Proofs.Qxb6603388a.Sign
