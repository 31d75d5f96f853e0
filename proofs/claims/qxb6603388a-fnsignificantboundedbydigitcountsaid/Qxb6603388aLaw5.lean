/-
  THE WALK of the law 'FnSignificantBoundedByDigitCount' (function 5); its bound 'zzBytes_..' (11).
-/
import Derived.Test.Qxb6603388aSig
namespace Go.Proofs.Qxb6603388a.Law5
open Go.RowKit
open Go.Proofs.Qxb6603388a.Dig Go.Proofs.Qxb6603388a.Sign
set_option linter.unusedVariables false
set_option linter.unusedSimpArgs false

/-- What the law's own loop holds. -/
def Inv (d : List Int) (m : Nat) (nz : Bool) (f l : Int) : Prop :=
  d.length = m ∧ (nz = false → Zeros d) ∧ (nz = true → ∃ i, i < d.length ∧ d.getD i 0 ≠ 48) ∧ f = d.getD 0 0 ∧ l = d.getD (d.length - 1) 0

theorem inv_start : Inv [] 0 false 0 0 := ⟨rfl, fun _ i h => by simp at h, fun h => by simp at h, rfl, rfl⟩

theorem inv_digit {d : List Int} {m : Nat} {nz : Bool} {f l : Int} (h : Inv d m nz f l) (c : Int) : Inv (d ++ [c]) (m + 1) (nz || (c != 48)) (if m = 0 then c else f) c := by
  obtain ⟨h1, h2, h3, h4, h5⟩ := h
  refine ⟨by simp [h1], fun hz i hi => ?_, fun hn => ?_, ?_, ?_⟩
  · simp only [Bool.or_eq_false_iff] at hz
    obtain ⟨hz1, hz2⟩ := hz
    by_cases hd : i < d.length
    · rw [getD_snoc_lt d c i hd]; exact h2 hz1 i hd
    · simp at hi
      rw [show i = d.length by omega, getD_snoc_eq]
      simpa using hz2
  · rcases Bool.or_eq_true_iff.1 hn with hn | hn
    · obtain ⟨i, hi, hne⟩ := h3 hn
      exact ⟨i, by simp; omega, by rw [getD_snoc_lt d c i hi]; exact hne⟩
    · exact ⟨d.length, by simp, by rw [getD_snoc_eq]; exact bne_iff_ne.1 hn⟩
  · by_cases hm : m = 0
    · rw [if_pos hm]
      have : d = [] := List.eq_nil_of_length_eq_zero (by omega)
      subst this
      rfl
    · rw [if_neg hm, h4, getD_snoc_lt d c 0 (by omega)]
  · simp [List.getD]

theorem step_digit {s : ByteArray} {k m : Nat} {nz : Bool} {f l : Int} (hlt : k < s.size) (H : Hid (Inv (D s k) m nz f l)) (h1 : 48 ≤ (s[k].toNat : Int)) (h2 : (s[k].toNat : Int) ≤ 57) {nz' : Bool} {f' : Int} (hn : (nz || ((s[k].toNat : Int) != 48)) = nz') (hf : (if m = 0 then (s[k].toNat : Int) else f) = f') :
    Hid (Inv (D s (k + 1)) (m + 1) nz' f' (s[k].toNat : Int)) := by
  unfold Hid
  rw [D_yes s k hlt h1 h2, ← hn, ← hf]
  exact inv_digit H.out _
theorem step_skip {s : ByteArray} {k m : Nat} {nz : Bool} {f l : Int} (H : Hid (Inv (D s k) m nz f l)) (e : D s (k + 1) = D s k) : Hid (Inv (D s (k + 1)) m nz f l) := by
  unfold Hid
  rw [e]
  exact H.out

theorem bytes_yes (s : ByteArray) (w : World) (h : s.size ≤ 1048576) : Calls Try.prog 11 #[.string s] w fun e w' => e = .returned (.bool true) ∧ w = w' := by
  go_enter Try.func11, Try.ntmps11
  go_wp2
  go_ret
  exact ⟨rfl, rfl⟩
theorem bytes_no (s : ByteArray) (w : World) (h : ¬ s.size ≤ 1048576) : Calls Try.prog 11 #[.string s] w fun e w' => e = .returned (.bool false) ∧ w = w' := by
  go_enter Try.func11, Try.ntmps11
  go_wp2
  go_ret
  exact ⟨rfl, rfl⟩

theorem zz_at (s : ByteArray) (w : World) (hs : s.size ≤ 1048576) {m : Nat} {nz : Bool} {a b : Int} (H : Hid (Inv (ds s) m nz a b)) :
    Calls Try.prog 8 #[.string s] w fun e w' => ∃ r : Int, e = .returned (.int .i64 r) ∧ 0 ≤ r ∧ r ≤ m ∧ ((r == 0) == nz) = false ∧ Hid (0 < m → a ≠ 48 → b ≠ 48 → r = m) ∧ w = w' := by
  refine (zz_any s w hs).mono ?_
  rintro e w' ⟨r, rfl, hr, rfl⟩
  obtain ⟨h1, h2, h3, h4, h5⟩ := H.out
  obtain ⟨b1, b2, b3, b4, b5⟩ := sig_bounds hr
  refine ⟨r, rfl, b1, by omega, ?_, ?_, rfl⟩
  · cases nz with
    | false => rw [b3 (h2 rfl)]; rfl
    | true => have := b4 (h3 rfl); simpa using this
  · intro g1 g2 g3
    rw [← h1]
    exact b5 (by omega) (by rw [← h4]; exact g2) (by rw [← h5]; exact g3)

set_option maxHeartbeats 2000000 in
set_option maxRecDepth 100000 in
theorem walk_short (s : ByteArray) (hs : s.size ≤ 1048576) (w : World) : Calls Try.prog 5 #[.string s] w fun e w' => e = .returned (.bool true) ∧ Grown w w' := by
  go_enter Try.func5, Try.ntmps5
  go_wp2_with (go_at_call 11; refine (bytes_yes s _ hs).mono ?_; rintro e w' ⟨rfl, rfl⟩)
  go_loop [3, 4, 5, 6, 7] (fun n z f l i => ∃ (k m : Nat) (nz : Bool) (a b : Int), k ≤ s.size ∧ m ≤ k ∧ i = .int .i64 k ∧ n = .int .i64 m ∧ z = .bool nz ∧ f = .int .u8 a ∧ l = .int .u8 b ∧ Hid (Inv (D s k) m nz a b)) (fun _ _ _ _ i => s.size - (intOf i).toNat)
  case atStart => exact ⟨0, 0, false, 0, 0, Nat.zero_le _, Nat.le_refl _, rfl, rfl, rfl, rfl, rfl, by rw [D_zero]; exact inv_start⟩
  case round =>
    obtain ⟨k, m, nz, a, b, hk, hm, rfl, rfl, rfl, rfl, rfl, H⟩ := hrel
    by_cases hlt : k < s.size
    · go_wp2
      · have hc : ((s[k].toNat : Int) != 48) = true := by assumption
        have hm0 : ((m : Int) == 0) = true := by assumption
        have h := step_digit hlt H ‹_› ‹_› (nz' := true) (f' := (s[k].toNat : Int)) (by rw [hc]; simp) (by rw [if_pos (by simpa using hm0)])
        go_round
        case rel => exact ⟨k + 1, m + 1, _, _, _, by omega, by omega, by go_num, by go_num, rfl, rfl, rfl, h⟩
        case measure => simp [intOf]; omega
      · have hc : ((s[k].toNat : Int) != 48) = false := by assumption
        have hm0 : ((m : Int) == 0) = true := by assumption
        have h := step_digit hlt H ‹_› ‹_› (nz' := nz) (f' := (s[k].toNat : Int)) (by rw [hc]; simp) (by rw [if_pos (by simpa using hm0)])
        go_round
        case rel => exact ⟨k + 1, m + 1, _, _, _, by omega, by omega, by go_num, by go_num, rfl, rfl, rfl, h⟩
        case measure => simp [intOf]; omega
      · have hc : ((s[k].toNat : Int) != 48) = true := by assumption
        have hm0 : ((m : Int) == 0) = false := by assumption
        have h := step_digit hlt H ‹_› ‹_› (nz' := true) (f' := a) (by rw [hc]; simp) (by rw [if_neg (by simpa using hm0)])
        go_round
        case rel => exact ⟨k + 1, m + 1, _, _, _, by omega, by omega, by go_num, by go_num, rfl, rfl, rfl, h⟩
        case measure => simp [intOf]; omega
      · have hc : ((s[k].toNat : Int) != 48) = false := by assumption
        have hm0 : ((m : Int) == 0) = false := by assumption
        have h := step_digit hlt H ‹_› ‹_› (nz' := nz) (f' := a) (by rw [hc]; simp) (by rw [if_neg (by simpa using hm0)])
        go_round
        case rel => exact ⟨k + 1, m + 1, _, _, _, by omega, by omega, by go_num, by go_num, rfl, rfl, rfl, h⟩
        case measure => simp [intOf]; omega
      · have h := step_skip H (D_high s k hlt (by omega))
        go_round
        case rel => exact ⟨k + 1, m, _, _, _, by omega, by omega, by go_num, rfl, rfl, rfl, rfl, h⟩
        case measure => simp [intOf]; omega
      · have h := step_skip H (D_low s k hlt (by omega))
        go_round
        case rel => exact ⟨k + 1, m, _, _, _, by omega, by omega, by go_num, rfl, rfl, rfl, rfl, h⟩
        case measure => simp [intOf]; omega
    · have hi : Hid (Inv (ds s) m nz a b) := (D_all s k (by omega)) ▸ H.out
      clear H
      go_wp2_with (go_at_call 8; refine (zz_at s _ hs hi).mono ?_; rintro e w' ⟨r, rfl, hr1, hr2, hr3, HF, rfl⟩)
      · go_ret; exact ⟨rfl, Grown.refl _⟩
      · go_ret; exact ⟨rfl, Grown.refl _⟩
      · have hq : ((a != 48) = true ∧ (b != 48) = true) ∧ (r != (m : Int)) = true := by assumption
        have h0 : 0 < m := by assumption
        exact absurd (HF.out h0 (bne_iff_ne.1 hq.1.1) (bne_iff_ne.1 hq.1.2)) (bne_iff_ne.1 hq.2)
      · go_ret; exact ⟨rfl, Grown.refl _⟩
      · go_ret; exact ⟨rfl, Grown.refl _⟩

theorem walk (s : ByteArray) (hs : s.size ≤ maxLen) (w : World) : Calls Try.prog 5 #[.string s] w fun e w' => e = .returned (.bool true) ∧ Grown w w' := by
  by_cases h : s.size ≤ 1048576
  · exact walk_short s h w
  · go_enter Try.func5, Try.ntmps5
    go_wp2_with (go_at_call 11; refine (bytes_no s _ h).mono ?_; rintro e w' ⟨rfl, rfl⟩)
    go_ret
    exact ⟨rfl, Grown.refl _⟩

end Go.Proofs.Qxb6603388a.Law5
