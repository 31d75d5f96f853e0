/-
  THE PLAIN LAW of 'sharedStart': the length of the longest common prefix of two lists of numbers. No Go in sight.
-/
namespace Go.Proofs.Qxb6602669a.Lcp

/-- The length of the longest common prefix. -/
def lcp : List Int → List Int → Nat
  | x :: xs, y :: ys => if x = y then lcp xs ys + 1 else 0
  | _, _ => 0

theorem lcp_cons (x y : Int) (xs ys : List Int) : lcp (x :: xs) (y :: ys) = if x = y then lcp xs ys + 1 else 0 := rfl
theorem lcp_nil_right (xs : List Int) : lcp xs [] = 0 := by cases xs <;> rfl
theorem lcp_nil_left (ys : List Int) : lcp [] ys = 0 := by cases ys <;> rfl

theorem lcp_le_left : ∀ xs ys : List Int, lcp xs ys ≤ xs.length
  | [], ys => by rw [lcp_nil_left]; simp
  | x :: xs, [] => by rw [lcp_nil_right]; simp
  | x :: xs, y :: ys => by
    unfold lcp
    split
    · have := lcp_le_left xs ys; simp; omega
    · simp

theorem lcp_comm : ∀ xs ys : List Int, lcp xs ys = lcp ys xs
  | [], ys => by rw [lcp_nil_left, lcp_nil_right]
  | x :: xs, [] => by rw [lcp_nil_left, lcp_nil_right]
  | x :: xs, y :: ys => by
    unfold lcp
    by_cases h : x = y
    · rw [if_pos h, if_pos h.symm, lcp_comm xs ys]
    · rw [if_neg h, if_neg (fun e => h e.symm)]

theorem lcp_le_right (xs ys : List Int) : lcp xs ys ≤ ys.length := by
  rw [lcp_comm]; exact lcp_le_left ys xs

theorem lcp_self : ∀ xs : List Int, lcp xs xs = xs.length
  | [] => rfl
  | x :: xs => by unfold lcp; rw [if_pos rfl, lcp_self xs]; rfl

theorem lcp_append : ∀ (p xs ys : List Int), lcp (p ++ xs) (p ++ ys) = p.length + lcp xs ys
  | [], xs, ys => by simp
  | z :: p, xs, ys => by
    show lcp (z :: (p ++ xs)) (z :: (p ++ ys)) = _
    rw [lcp_cons, if_pos rfl, lcp_append p xs ys]
    simp only [List.length_cons]
    omega

/-- The numbers before it agree. -/
theorem lcp_agree : ∀ (xs ys : List Int) (i : Nat), i < lcp xs ys → xs.getD i 0 = ys.getD i 0
  | [], ys, i, h => by rw [lcp_nil_left] at h; omega
  | x :: xs, [], i, h => by rw [lcp_nil_right] at h; omega
  | x :: xs, y :: ys, i, h => by
    unfold lcp at h
    split at h
    · rename_i e
      cases i with
      | zero => simpa using e
      | succ i => simpa using lcp_agree xs ys i (by omega)
    · omega

/-- At it one list ends, or the numbers differ. -/
theorem lcp_stop : ∀ (xs ys : List Int), lcp xs ys < xs.length → lcp xs ys < ys.length → xs.getD (lcp xs ys) 0 ≠ ys.getD (lcp xs ys) 0
  | [], ys, h, _ => by simp at h
  | x :: xs, [], _, h => by simp at h
  | x :: xs, y :: ys, h1, h2 => by
    unfold lcp at h1 h2 ⊢
    split at h1
    · rename_i e
      rw [if_pos e] at h2
      rw [if_pos e]
      simpa using lcp_stop xs ys (by simpa using h1) (by simpa using h2)
    · rename_i e
      rw [if_neg e]
      simpa using e

/-- WHAT IT IS: k, if the first k numbers agree and at k one list ends or the numbers differ. -/
theorem lcp_eq : ∀ (xs ys : List Int) (k : Nat), k ≤ xs.length → k ≤ ys.length → (∀ i, i < k → xs.getD i 0 = ys.getD i 0) →
    (k < xs.length → k < ys.length → xs.getD k 0 ≠ ys.getD k 0) → lcp xs ys = k
  | [], ys, k, h1, _, _, _ => by rw [lcp_nil_left]; simp at h1; omega
  | x :: xs, [], k, _, h2, _, _ => by rw [lcp_nil_right]; simp at h2; omega
  | x :: xs, y :: ys, 0, h1, h2, _, h4 => by
    unfold lcp
    rw [if_neg (by simpa using h4 (by simp) (by simp))]
  | x :: xs, y :: ys, k + 1, h1, h2, h3, h4 => by
    unfold lcp
    rw [if_pos (by simpa using h3 0 (by omega))]
    rw [lcp_eq xs ys k (by simpa using h1) (by simpa using h2) (fun i hi => by simpa using h3 (i + 1) (by omega)) (fun a b => by simpa using h4 (by simpa using a) (by simpa using b))]

end Go.Proofs.Qxb6602669a.Lcp
