/-
  THE WALK of 'zzFind' (function 20): in a strictly rising list it finds what is there.
-/
import Derived.Test.Qxb6602669aFs
import Derived.Sort.EncStr
namespace Go.Proofs.Qxb6602669a.Find
open Go.RowKit Go.Sort
set_option linter.unusedVariables false
set_option linter.unusedSimpArgs false

theorem bytesLess_eq : ∀ (x y : List UInt8), Op.bytesLess x y = decide (x < y)
  | [], [] => by simp [Op.bytesLess]
  | [], b :: y => by simp [Op.bytesLess]
  | a :: x, [] => by simp [Op.bytesLess]
  | a :: x, b :: y => by
    rw [Op.bytesLess, bytesLess_eq x y]
    simp only [List.cons_lt_cons_iff]
    by_cases h1 : a < b <;> by_cases h2 : a = b <;> by_cases h3 : x < y <;> simp [h1, h2, h3]

/-- Strictly rising. -/
def Rising (zs : List (List UInt8)) : Prop := zs.Pairwise (· < ·)
theorem Rising.lt {zs : List (List UInt8)} (h : Rising zs) {i j : Nat} {a b : List UInt8} (hij : i < j) (ha : zs[i]? = some a) (hb : zs[j]? = some b) : a < b := by
  obtain ⟨hi, rfl⟩ := List.getElem?_eq_some_iff.1 ha
  obtain ⟨hj, rfl⟩ := List.getElem?_eq_some_iff.1 hb
  exact List.pairwise_iff_getElem.1 h i j hi hj hij

set_option maxHeartbeats 4000000 in
set_option maxRecDepth 100000 in
theorem find_any (g n cap : Nat) (zs : List (List UInt8)) (k : Nat) (y : List UInt8) (w : World) (hn : zs.length = n) (hbig : n ≤ 1048576) (hr : Rising zs) (hk : zs[k]? = some y)
    (hc : ∀ i x, zs[i]? = some x → w.cell? ⟨g, i, none⟩ = some (encStr x)) :
    Calls Try.prog 20 #[.slice (some ⟨g, 0, none⟩) n cap, .string ⟨y.toArray⟩] w fun e w' => e = .returned (.int .i64 k) ∧ w = w' := by
  have HN : Hid (zs.length = n) := hn
  have HR : Hid (Rising zs) := hr
  have HK : Hid (zs[k]? = some y) := hk
  have HC : Hid (∀ i x, zs[i]? = some x → w.cell? ⟨g, i, none⟩ = some (encStr x)) := hc
  have hkn : k < n := by rw [← hn]; exact (List.getElem?_eq_some_iff.1 hk).1
  clear hn hr hk hc
  go_enter Try.func20, Try.ntmps20
  go_wp2
  go_loop [5, 6] (fun a b => ∃ lo hi : Nat, lo ≤ hi ∧ hi ≤ n ∧ a = .int .i64 lo ∧ b = .int .i64 hi ∧ lo ≤ k ∧ Hid (∀ i x, hi ≤ i → zs[i]? = some x → ¬ x < y)) (fun a b => (intOf b).toNat - (intOf a).toNat)
  case atStart => exact ⟨0, n, Nat.zero_le _, Nat.le_refl _, rfl, rfl, Nat.zero_le _, fun i x hi hx => by have := (List.getElem?_eq_some_iff.1 hx).1; have := HN.out; omega⟩
  case round =>
    obtain ⟨lo, hi, hlo, hhi, rfl, rfl, hlk, HI⟩ := hrel
    by_cases hlt : lo < hi
    · have hm : lo + (hi - lo) / 2 < n := by omega
      obtain ⟨x, hx⟩ : ∃ x, zs[lo + (hi - lo) / 2]? = some x := ⟨_, List.getElem?_eq_getElem (by rw [HN.out]; exact hm)⟩
      have HX : Hid (zs[lo + (hi - lo) / 2]? = some x) := hx
      have g0 := HC.out _ x hx
      have hjm : ((lo : Int) + ((hi : Int) - (lo : Int)) / 2) = ((lo + (hi - lo) / 2 : Nat) : Int) := by omega
      clear hx
      cases hb : Op.bytesLess x y
      · have HB : Hid (¬ x < y) := by
          rw [bytesLess_eq] at hb
          exact (of_decide_eq_false hb : ¬ x < y)
        go_wp2
        go_round
        case rel => exact ⟨lo, lo + (hi - lo) / 2, by omega, by omega, rfl, by go_num, hlk, fun i z hi' hz hlt' => by
          rcases Nat.lt_or_eq_of_le hi' with h1 | h1
          · exact HB.out (List.lt_trans (HR.out.lt h1 HX.out hz) hlt')
          · subst h1
            have e := HX.out.symm.trans hz
            cases e
            exact HB.out hlt'⟩
        case measure => simp [intOf]; omega
      · have HB : Hid (x < y) := by
          rw [bytesLess_eq] at hb
          exact (of_decide_eq_true hb : x < y)
        have hkl : lo + (hi - lo) / 2 + 1 ≤ k := by
          rcases Nat.lt_trichotomy (lo + (hi - lo) / 2) k with h1 | h1 | h1
          · omega
          · subst h1
            have e := HX.out.symm.trans HK.out
            cases e
            exact absurd HB.out (List.lt_irrefl _)
          · exact absurd (List.lt_trans HB.out (HR.out.lt h1 HK.out HX.out)) (List.lt_irrefl _)
        go_wp2
        go_round
        case rel => exact ⟨lo + (hi - lo) / 2 + 1, hi, by omega, by omega, by go_num, rfl, hkl, HI⟩
        case measure => simp [intOf]; omega
    · have hk2 : lo = k := by
        rcases Nat.lt_or_eq_of_le hlk with h1 | h1
        · obtain ⟨x, hx⟩ : ∃ x, zs[lo]? = some x := ⟨_, List.getElem?_eq_getElem (by rw [HN.out]; omega)⟩
          exact absurd (HR.out.lt h1 hx HK.out) (HI.out lo x (by omega) hx)
        · exact h1
      subst hk2
      have g0 := HC.out _ y HK.out
      have hj : (lo : Int) < (n : Int) := by omega
      go_wp2
      go_ret
      exact ⟨rfl, rfl⟩

end Go.Proofs.Qxb6602669a.Find
