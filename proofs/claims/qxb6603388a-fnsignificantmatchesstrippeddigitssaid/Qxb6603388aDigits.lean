/-
  THE PLAIN LAW of 'significant': the digits of a text, and what lies between the first and the last that is not zero. No Go in sight.
-/
namespace Go.Proofs.Qxb6603388a.Dig
set_option linter.unusedVariables false
set_option linter.unusedSimpArgs false

def isD (c : Int) : Bool := decide (48 ≤ c) && decide (c ≤ 57)
/-- The digits among the bytes. -/
def digs (l : List UInt8) : List Int := (l.map fun c => (c.toNat : Int)).filter isD

theorem digs_nil : digs [] = [] := rfl
theorem digs_yes (l : List UInt8) (c : UInt8) (h1 : 48 ≤ (c.toNat : Int)) (h2 : (c.toNat : Int) ≤ 57) : digs (l ++ [c]) = digs l ++ [(c.toNat : Int)] := by
  simp [digs, List.filter_append, List.filter_cons, isD, h1, h2]
theorem digs_low (l : List UInt8) (c : UInt8) (h1 : ¬ 48 ≤ (c.toNat : Int)) : digs (l ++ [c]) = digs l := by
  simp [digs, List.filter_append, List.filter_cons, isD, h1]
theorem digs_high (l : List UInt8) (c : UInt8) (h2 : ¬ (c.toNat : Int) ≤ 57) : digs (l ++ [c]) = digs l := by
  simp [digs, List.filter_append, List.filter_cons, isD, h2]
theorem digs_le (l : List UInt8) : (digs l).length ≤ l.length := by
  have := List.length_filter_le isD (l.map fun c => (c.toNat : Int))
  simpa [digs] using this
theorem digs_range (l : List UInt8) : ∀ c ∈ digs l, 0 ≤ c ∧ c ≤ 255 := by
  intro c hc
  have := (List.mem_filter.1 hc).2
  simp [isD] at this
  omega

theorem getD_snoc_lt (d : List Int) (c : Int) (i : Nat) (h : i < d.length) : (d ++ [c]).getD i 0 = d.getD i 0 := by
  simp [List.getD, List.getElem?_append_left h]
theorem getD_snoc_eq (d : List Int) (c : Int) : (d ++ [c]).getD d.length 0 = c := by
  simp [List.getD]

/-- Between f and l: the first and the last that is not '0'. -/
def Mid (d : List Int) (f l : Nat) : Prop :=
  f ≤ l ∧ l < d.length ∧ d.getD f 0 ≠ 48 ∧ d.getD l 0 ≠ 48 ∧ (∀ i, i < f → d.getD i 0 = 48) ∧ ∀ i, l < i → i < d.length → d.getD i 0 = 48
def Zeros (d : List Int) : Prop := ∀ i, i < d.length → d.getD i 0 = 48

/-- What 'significant' answers of the digits d. -/
def Sig (d : List Int) (r : Int) : Prop := (r = 0 ∧ Zeros d) ∨ ∃ f l : Nat, r = (l : Int) - f + 1 ∧ Mid d f l
/-- What it holds while it goes. -/
def St (d : List Int) (first last : Int) : Prop := (first = -1 ∧ last = -1 ∧ Zeros d) ∨ ∃ f l : Nat, first = f ∧ last = l ∧ Mid d f l

theorem st_start : St [] (-1) (-1) := .inl ⟨rfl, rfl, fun i h => by simp at h⟩

theorem st_zero {d : List Int} {a b : Int} (h : St d a b) : St (d ++ [48]) a b := by
  rcases h with ⟨e1, e2, hz⟩ | ⟨f, l, e1, e2, h1, h2, h3, h4, h5, h6⟩
  · refine .inl ⟨e1, e2, fun i hi => ?_⟩
    by_cases h : i < d.length
    · rw [getD_snoc_lt d 48 i h]; exact hz i h
    · simp at hi
      rw [show i = d.length by omega, getD_snoc_eq]
  · refine .inr ⟨f, l, e1, e2, h1, by simp; omega, ?_, ?_, fun i hi => ?_, fun i h7 hi => ?_⟩
    · rw [getD_snoc_lt d 48 f (by omega)]; exact h3
    · rw [getD_snoc_lt d 48 l (by omega)]; exact h4
    · rw [getD_snoc_lt d 48 i (by omega)]; exact h5 i hi
    · by_cases h : i < d.length
      · rw [getD_snoc_lt d 48 i h]; exact h6 i h7 h
      · simp at hi
        rw [show i = d.length by omega, getD_snoc_eq]

theorem st_first {d : List Int} {a b c : Int} (h : St d a b) (ha : a < 0) (hc : c ≠ 48) : St (d ++ [c]) d.length d.length := by
  rcases h with ⟨e1, e2, hz⟩ | ⟨f, l, e1, e2, h1, h2, h3, h4, h5, h6⟩
  · refine .inr ⟨d.length, d.length, rfl, rfl, Nat.le_refl _, by simp, ?_, ?_, fun i hi => ?_, fun i h7 hi => ?_⟩
    · rw [getD_snoc_eq]; exact hc
    · rw [getD_snoc_eq]; exact hc
    · rw [getD_snoc_lt d c i hi]; exact hz i hi
    · simp at hi; omega
  · omega

theorem st_next {d : List Int} {a b c : Int} (h : St d a b) (ha : ¬ a < 0) (hc : c ≠ 48) : St (d ++ [c]) a d.length := by
  rcases h with ⟨e1, e2, hz⟩ | ⟨f, l, e1, e2, h1, h2, h3, h4, h5, h6⟩
  · omega
  · refine .inr ⟨f, d.length, e1, rfl, by omega, by simp, ?_, ?_, fun i hi => ?_, fun i h7 hi => ?_⟩
    · rw [getD_snoc_lt d c f (by omega)]; exact h3
    · rw [getD_snoc_eq]; exact hc
    · rw [getD_snoc_lt d c i (by omega)]; exact h5 i hi
    · simp at hi; omega

theorem st_range {d : List Int} {a b : Int} (h : St d a b) : -1 ≤ a ∧ a ≤ b ∧ b < d.length ∧ (0 ≤ a ∨ a = -1) := by
  rcases h with ⟨e1, e2, hz⟩ | ⟨f, l, e1, e2, h1, h2, _⟩
  · omega
  · omega

theorem st_done {d : List Int} {a b : Int} (h : St d a b) (ha : ¬ a < 0) : Sig d (b - a + 1) := by
  rcases h with ⟨e1, e2, hz⟩ | ⟨f, l, e1, e2, h1⟩
  · omega
  · exact .inr ⟨f, l, by rw [e1, e2], h1⟩
theorem st_none {d : List Int} {a b : Int} (h : St d a b) (ha : a < 0) : Sig d 0 := by
  rcases h with ⟨e1, e2, hz⟩ | ⟨f, l, e1, e2, h1⟩
  · exact .inl ⟨rfl, hz⟩
  · omega

/-- Stripped off both ends. -/
theorem sig_strip {d : List Int} {r : Int} (h : Sig d r) (lo hi : Nat) (h1 : lo ≤ hi) (h2 : hi ≤ d.length) (hlo : ∀ i, i < lo → d.getD i 0 = 48) (hlo' : lo < d.length → d.getD lo 0 ≠ 48)
    (hhi : ∀ i, hi ≤ i → i < d.length → d.getD i 0 = 48) (hhi' : lo < hi → d.getD (hi - 1) 0 ≠ 48) : r = (hi : Int) - lo := by
  rcases h with ⟨rfl, hz⟩ | ⟨f, l, rfl, h3, h4, h5, h6, h7, h8⟩
  · have : ¬ lo < hi := fun hlt => hhi' hlt (hz _ (by omega))
    omega
  · have e1 : lo = f := by
      rcases Nat.lt_trichotomy lo f with h | h | h
      · exact absurd (h7 lo h) (hlo' (by omega))
      · exact h
      · exact absurd (hlo f h) h5
    have e2 : hi = l + 1 := by
      rcases Nat.lt_trichotomy hi (l + 1) with h | h | h
      · exact absurd (hhi l (by omega) h4) h6
      · exact h
      · exact absurd (h8 (hi - 1) (by omega) (by omega)) (hhi' (by omega))
    omega

/-- What the count is bound by. -/
theorem sig_bounds {d : List Int} {r : Int} (h : Sig d r) : 0 ≤ r ∧ r ≤ d.length ∧ (Zeros d → r = 0) ∧ ((∃ i, i < d.length ∧ d.getD i 0 ≠ 48) → r ≠ 0) ∧
    (0 < d.length → d.getD 0 0 ≠ 48 → d.getD (d.length - 1) 0 ≠ 48 → r = d.length) := by
  rcases h with ⟨rfl, hz⟩ | ⟨f, l, rfl, h3, h4, h5, h6, h7, h8⟩
  · exact ⟨by omega, by omega, fun _ => rfl, fun ⟨i, hi, hn⟩ => absurd (hz i hi) hn, fun h0 h1 _ => absurd (hz 0 h0) h1⟩
  · refine ⟨by omega, by omega, fun hz => absurd (hz f (by omega)) h5, fun _ => by omega, fun h0 h1 h2 => ?_⟩
    have e1 : f = 0 := by
      rcases Nat.eq_zero_or_pos f with h | h
      · exact h
      · exact absurd (h7 0 h) h1
    have e2 : l = d.length - 1 := by
      rcases Nat.lt_or_ge l (d.length - 1) with h | h
      · exact absurd (h8 (d.length - 1) h (by omega)) h2
      · omega
    omega

theorem take_snoc (s : ByteArray) (k : Nat) (h : k < s.size) : s.data.toList.take (k + 1) = s.data.toList.take k ++ [s[k]] := by
  rw [List.take_succ_eq_append_getElem (by simpa using h)]; rfl

end Go.Proofs.Qxb6603388a.Dig
