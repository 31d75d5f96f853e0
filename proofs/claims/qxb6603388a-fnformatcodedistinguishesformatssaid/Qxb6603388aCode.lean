/-
  THE PLAIN LAW of the format code: 0, then '.' and the zeros, then '%'. No Go in sight.
-/
namespace Go.Proofs.Qxb6603388a.Code
set_option linter.unusedVariables false

def clamp (p : Int) : Int := if p < 0 then 0 else p

/-- The code's bytes. -/
def codeL (p : Int) (c : Bool) : List UInt8 := [48] ++ ((if 0 < p then [46] ++ List.replicate p.toNat 48 else []) ++ (if c then [37] else []))

theorem codeL_len (p : Int) (c : Bool) : (codeL p c).length = 1 + ((if 0 < p then 1 + p.toNat else 0) + (if c then 1 else 0)) := by
  unfold codeL
  by_cases h : 0 < p <;> cases c <;> simp [h] <;> omega

theorem codeL_last (p : Int) (c : Bool) : (37 : UInt8) ∈ codeL p c ↔ c = true := by
  unfold codeL
  cases c with
  | true => simp
  | false => by_cases h : 0 < p <;> simp [h]

theorem codeL_inj (p1 p2 : Int) (c1 c2 : Bool) : codeL p1 c1 = codeL p2 c2 ↔ clamp p1 = clamp p2 ∧ c1 = c2 := by
  constructor
  · intro h
    have hc : c1 = c2 := by
      have h1 := codeL_last p1 c1
      have h2 := codeL_last p2 c2
      rw [h] at h1
      rw [Bool.eq_iff_iff]
      exact h1.symm.trans h2
    have hl := congrArg List.length h
    rw [codeL_len, codeL_len, hc] at hl
    refine ⟨?_, hc⟩
    unfold clamp
    by_cases a : 0 < p1 <;> by_cases b : 0 < p2 <;> simp [a, b] at hl <;> (repeat split) <;> omega
  · rintro ⟨h, rfl⟩
    unfold clamp at h
    unfold codeL
    by_cases a : 0 < p1 <;> by_cases b : 0 < p2
    · rw [if_neg (by omega), if_neg (by omega)] at h
      rw [h]
    · split at h <;> split at h <;> omega
    · split at h <;> split at h <;> omega
    · simp [a, b]

theorem codeL_beq (p1 p2 : Int) (c1 c2 : Bool) : (codeL p1 c1 == codeL p2 c2) = ((clamp p1 == clamp p2) && (c1 == c2)) := by
  rw [Bool.eq_iff_iff]
  simp only [beq_iff_eq, Bool.and_eq_true]
  exact codeL_inj p1 p2 c1 c2

end Go.Proofs.Qxb6603388a.Code
