/-
  THE PLAIN LAW of 'Domains': depth first with one set of seen items over all roots, and breadth first from each root by itself, assign the same names. No Go in sight: an item is an integer; 'kf y': the children of y; 'Reach kf r x': x can be reached from r (through items below 0 alone).
-/
namespace Go.Proofs.Qxb6602669a.Graph
set_option linter.unusedVariables false
set_option linter.unusedSimpArgs false

/-! ### the last node of an ID -/
/-- Of the first k nodes the last whose ID is x. -/
def lastTo (ids : Nat → Int) : Nat → Int → Option Nat
  | 0, _ => none
  | k + 1, x => if x = ids k then some k else lastTo ids k x

theorem lastTo_some (ids : Nat → Int) : ∀ (k : Nat) (x : Int) (j : Nat), lastTo ids k x = some j → j < k ∧ ids j = x
  | 0, x, j, h => by simp [lastTo] at h
  | k + 1, x, j, h => by
    unfold lastTo at h
    split at h
    · rename_i e
      cases h
      exact ⟨by omega, e.symm⟩
    · have := lastTo_some ids k x j h
      exact ⟨by omega, this.2⟩

/-- The children of x: those of the last node whose ID is x; none where there is no such node. -/
def kidsOf (ids : Nat → Int) (kids : Nat → List Int) (n : Nat) (x : Int) : List Int := ((lastTo ids n x).map kids).getD []

/-! ### how much there is still to push -/
def ins (y : Int) (S : Int → Bool) : Int → Bool := fun x => if x = y then true else S x
theorem ins_self (y : Int) (S : Int → Bool) : ins y S y = true := by simp [ins]
theorem ins_of (y : Int) (S : Int → Bool) {x : Int} (h : S x = true) : ins y S x = true := by unfold ins; split <;> simp [h]
theorem ins_iff (y : Int) (S : Int → Bool) (x : Int) : ins y S x = true ↔ x = y ∨ S x = true := by unfold ins; split <;> simp [*]
theorem ins_ne {y x : Int} (S : Int → Bool) (h : x ≠ y) : ins y S x = S x := by simp [ins, h]

def pot (ids : Nat → Int) (kids : Nat → List Int) (n : Nat) (S : Int → Bool) : Nat → Nat
  | 0 => 0
  | m + 1 => pot ids kids n S m + (if lastTo ids n (ids m) = some m ∧ S (ids m) = false then (kids m).length else 0)

def lens (kids : Nat → List Int) : Nat → Nat
  | 0 => 0
  | m + 1 => lens kids m + (kids m).length

theorem pot_le (ids : Nat → Int) (kids : Nat → List Int) (n : Nat) (S : Int → Bool) : ∀ m, pot ids kids n S m ≤ lens kids m
  | 0 => Nat.le_refl _
  | m + 1 => by
    have := pot_le ids kids n S m
    unfold pot lens
    split <;> omega

theorem pot_ins (ids : Nat → Int) (kids : Nat → List Int) (n : Nat) (S : Int → Bool) (y : Int) (hy : S y = false) : ∀ m,
    pot ids kids n (ins y S) m + (match lastTo ids n y with | some j => if j < m then (kids j).length else 0 | none => 0) = pot ids kids n S m
  | 0 => by unfold pot; split <;> simp
  | m + 1 => by
    have ih := pot_ins ids kids n S y hy m
    unfold pot
    by_cases hm : ids m = y
    · cases hl : lastTo ids n y with
      | none =>
        rw [hl] at ih
        simp only at ih ⊢
        rw [hm, hl]
        simp
        omega
      | some j =>
        rw [hl] at ih
        simp only at ih ⊢
        rw [hm, hl, ins_self, hy]
        by_cases hjm : j = m
        · subst hjm
          simp at ih ⊢
          omega
        · have e1 : ¬ (some j = some m) := fun e => hjm (Option.some.inj e)
          have e2 : (j < m + 1) = (j < m) := by rw [eq_iff_iff]; omega
          simp only [e1, false_and, if_false, e2]
          omega
    · have e : ins y S (ids m) = S (ids m) := ins_ne S hm
      rw [e]
      cases hl : lastTo ids n y with
      | none => rw [hl] at ih; simp only at ih ⊢; omega
      | some j =>
        rw [hl] at ih
        simp only at ih ⊢
        have hjm : j ≠ m := fun e => hm (by rw [← e]; exact (lastTo_some ids n y j hl).2)
        have e2 : (j < m + 1) = (j < m) := by rw [eq_iff_iff]; omega
        simp only [e2]
        omega

theorem pot_kids (ids : Nat → Int) (kids : Nat → List Int) (n : Nat) (S : Int → Bool) (y : Int) (hy : S y = false) : pot ids kids n (ins y S) n + (kidsOf ids kids n y).length = pot ids kids n S n := by
  have h := pot_ins ids kids n S y hy n
  unfold kidsOf
  cases hl : lastTo ids n y with
  | none => rw [hl] at h; simpa using h
  | some j =>
    rw [hl] at h
    have := (lastTo_some ids n y j hl).1
    simpa [this] using h

theorem pot_congr (ids : Nat → Int) (kids : Nat → List Int) (n : Nat) (S T : Int → Bool) (h : ∀ x, S x = T x) (m : Nat) : pot ids kids n S m = pot ids kids n T m := by
  rw [show S = T from funext h]

/-- An item is marked: what is still to be pushed does not grow. -/
theorem pot_mono (ids : Nat → Int) (kids : Nat → List Int) (n : Nat) (S : Int → Bool) (y : Int) (m : Nat) (hm : m = n) : pot ids kids n (ins y S) m ≤ pot ids kids n S m := by
  subst hm
  cases h : S y with
  | false => have := pot_kids ids kids m S y h; omega
  | true =>
    have e : ins y S = S := funext fun x => by
      by_cases hx : x = y
      · rw [hx, ins_self, h]
      · exact ins_ne S hx
    rw [e]
    exact Nat.le_refl _

/-! ### what can be reached -/
variable {kf : Int → List Int}

def Reach (kf : Int → List Int) (r x : Int) : Prop := ∀ S : Int → Prop, S r → (∀ y z, S y → y < 0 → z ∈ kf y → S z) → S x

theorem reach_self (r : Int) : Reach kf r r := fun S h _ => h
theorem reach_step {r y z : Int} (h : Reach kf r y) (hy : y < 0) (hz : z ∈ kf y) : Reach kf r z := fun S h1 h2 => h2 y z (h S h1 h2) hy hz

/-! ### depth first -/
structure Dfs (kf : Int → List Int) (r : Int) (S0 S : Int → Bool) (st : List Int) : Prop where
  sub : ∀ x, S0 x = true → S x = true
  new : ∀ x, S x = true → S0 x = true ∨ Reach kf r x
  stk : ∀ x ∈ st, Reach kf r x
  root : S r = true ∨ r ∈ st
  closed : ∀ y z, S y = true → y < 0 → z ∈ kf y → S z = true ∨ z ∈ st

def Closed (kf : Int → List Int) (S : Int → Bool) : Prop := ∀ y z, S y = true → y < 0 → z ∈ kf y → S z = true

theorem dfs_start {r : Int} {S0 : Int → Bool} (h : Closed kf S0) : Dfs kf r S0 S0 [r] :=
  ⟨fun x h => h, fun x h => .inl h, fun x hx => by (simp at hx; subst hx; exact reach_self x), .inr (by simp), fun y z h1 h2 h3 => .inl (h y z h1 h2 h3)⟩

theorem dfs_seen {r x : Int} {S0 S : Int → Bool} {st : List Int} (h : Dfs kf r S0 S (st ++ [x])) (hx : S x = true) : Dfs kf r S0 S st := by
  refine ⟨h.sub, h.new, fun y hy => h.stk y (by simp [hy]), ?_, fun y z h1 h2 h3 => ?_⟩
  · rcases h.root with h | h
    · exact .inl h
    · rcases List.mem_append.1 h with h | h
      · exact .inr h
      · simp at h; subst h; exact .inl hx
  · rcases h.closed y z h1 h2 h3 with h | h
    · exact .inl h
    · rcases List.mem_append.1 h with h | h
      · exact .inr h
      · simp at h; subst h; exact .inl hx

theorem dfs_push {r x : Int} {S0 S : Int → Bool} {st new : List Int} (h : Dfs kf r S0 S (st ++ [x])) (hnew : ∀ z, z ∈ new → x < 0 ∧ z ∈ kf x) (hall : x < 0 → ∀ z, z ∈ kf x → z ∈ new) : Dfs kf r S0 (ins x S) (st ++ new) := by
  have hrx : Reach kf r x := h.stk x (by simp)
  refine ⟨fun y hy => ins_of x S (h.sub y hy), fun y hy => ?_, fun y hy => ?_, ?_, fun y z h1 h2 h3 => ?_⟩
  · rcases (ins_iff x S y).1 hy with rfl | hy
    · exact .inr hrx
    · exact h.new y hy
  · rcases List.mem_append.1 hy with hy | hy
    · exact h.stk y (by simp [hy])
    · exact reach_step hrx (hnew y hy).1 (hnew y hy).2
  · rcases h.root with h | h
    · exact .inl (ins_of x S h)
    · rcases List.mem_append.1 h with h | h
      · exact .inr (by simp [h])
      · simp at h; subst h; exact .inl (ins_self _ S)
  · rcases (ins_iff x S y).1 h1 with rfl | h1
    · exact .inr (by simp [hall h2 z h3])
    · rcases h.closed y z h1 h2 h3 with h | h
      · exact .inl (ins_of x S h)
      · rcases List.mem_append.1 h with h | h
        · exact .inr (by simp [h])
        · simp at h; subst h; exact .inl (ins_self _ S)

theorem dfs_end {r : Int} {S0 S : Int → Bool} (h : Dfs kf r S0 S []) : Closed kf S ∧ ∀ x, S x = true ↔ S0 x = true ∨ Reach kf r x := by
  have hc : Closed kf S := fun y z h1 h2 h3 => (h.closed y z h1 h2 h3).resolve_right (by simp)
  refine ⟨hc, fun x => ⟨h.new x, fun hx => ?_⟩⟩
  rcases hx with hx | hx
  · exact h.sub x hx
  · exact hx (fun y => S y = true) (h.root.resolve_right (by simp)) hc

/-! ### breadth first -/
structure Bfs (kf : Int → List Int) (r : Int) (q : List Int) (h : Nat) : Prop where
  nodup : q.Nodup
  root : r ∈ q
  reach : ∀ x ∈ q, Reach kf r x
  done : ∀ i, i < h → ∀ y, q[i]? = some y → y < 0 → ∀ z ∈ kf y, z ∈ q

theorem bfs_start (r : Int) : Bfs kf r [r] 0 := ⟨by simp, by simp, fun x hx => by (simp at hx; subst hx; exact reach_self x), fun i hi => by omega⟩

/-- One item more is done, and what it brought stands behind the queue. -/
theorem bfs_next {r x : Int} {q new : List Int} {h : Nat} (H : Bfs kf r q h) (hx : q[h]? = some x) (hnd : (q ++ new).Nodup) (hnew : ∀ z ∈ new, x < 0 ∧ z ∈ kf x) (hall : x < 0 → ∀ z ∈ kf x, z ∈ q ++ new) : Bfs kf r (q ++ new) (h + 1) := by
  have hxq : x ∈ q := List.mem_of_getElem? hx
  refine ⟨hnd, by simp [H.root], fun y hy => ?_, fun i hi y hy h0 z hz => ?_⟩
  · rcases List.mem_append.1 hy with hy | hy
    · exact H.reach y hy
    · exact reach_step (H.reach x hxq) (hnew y hy).1 (hnew y hy).2
  · have hlt : h < q.length := (List.getElem?_eq_some_iff.1 hx).1
    rw [List.getElem?_append_left (by omega)] at hy
    by_cases hih : i = h
    · subst hih
      rw [hx] at hy
      cases hy
      exact hall h0 z hz
    · have := H.done i (by omega) y hy h0 z hz
      simp [this]

theorem bfs_end {r : Int} {q : List Int} {h : Nat} (H : Bfs kf r q h) (hh : q.length ≤ h) : ∀ x, x ∈ q ↔ Reach kf r x := by
  refine fun x => ⟨H.reach x, fun hx => hx (· ∈ q) H.root (fun y z hy h0 hz => ?_)⟩
  obtain ⟨i, hi⟩ := List.getElem?_of_mem hy
  have hlt := (List.getElem?_eq_some_iff.1 hi).1
  exact H.done i (by omega) y hi h0 z hz

/-! ### who is assigned to whom -/
section
variable {V : Type} {ids : Nat → Int} {ok : Nat → Bool} {nm : Nat → V}

/-- Behind i nodes: x (0 and up) holds the name of the first matching node from which it can be reached. -/
def Dom (kf : Int → List Int) (ids : Nat → Int) (ok : Nat → Bool) (nm : Nat → V) (i : Nat) (f : Int → Option V) : Prop :=
  ∀ x v, f x = some v ↔ 0 ≤ x ∧ ∃ j, j < i ∧ ok j = true ∧ Reach kf (ids j) x ∧ (∀ j', j' < j → ok j' = true → ¬ Reach kf (ids j') x) ∧ v = nm j

def Seen (kf : Int → List Int) (ids : Nat → Int) (ok : Nat → Bool) (i : Nat) (S : Int → Bool) : Prop := ∀ x, S x = true ↔ ∃ j, j < i ∧ ok j = true ∧ Reach kf (ids j) x

theorem dom_start : Dom kf ids ok nm 0 (fun _ => none) := fun x v => ⟨fun h => (by cases h), fun ⟨_, j, hj, _⟩ => (by omega)⟩
theorem seen_start : Seen kf ids ok 0 (fun _ => false) := fun x => ⟨fun h => (by cases h), fun ⟨j, hj, _⟩ => (by omega)⟩

theorem dom_skip {i : Nat} {f : Int → Option V} (h : Dom kf ids ok nm i f) (ho : ok i = false) : Dom kf ids ok nm (i + 1) f := by
  intro x v
  rw [h x v]
  constructor
  · rintro ⟨h0, j, hj, r⟩
    exact ⟨h0, j, by omega, r⟩
  · rintro ⟨h0, j, hj, hoj, r⟩
    have : j ≠ i := fun e => by rw [e, ho] at hoj; cases hoj
    exact ⟨h0, j, by omega, hoj, r⟩

theorem seen_skip {i : Nat} {S : Int → Bool} (h : Seen kf ids ok i S) (ho : ok i = false) : Seen kf ids ok (i + 1) S := by
  intro x
  rw [h x]
  constructor
  · rintro ⟨j, hj, r⟩
    exact ⟨j, by omega, r⟩
  · rintro ⟨j, hj, hoj, r⟩
    have : j ≠ i := fun e => by rw [e, ho] at hoj; cases hoj
    exact ⟨j, by omega, hoj, r⟩

theorem seen_next {i : Nat} {S0 S : Int → Bool} (h : Seen kf ids ok i S0) (ho : ok i = true) (hS : ∀ x, S x = true ↔ S0 x = true ∨ Reach kf (ids i) x) : Seen kf ids ok (i + 1) S := by
  intro x
  rw [hS x, h x]
  constructor
  · rintro (⟨j, hj, r⟩ | r)
    · exact ⟨j, by omega, r⟩
    · exact ⟨i, by omega, ho, r⟩
  · rintro ⟨j, hj, hoj, r⟩
    by_cases e : j = i
    · subst e; exact .inr r
    · exact .inl ⟨j, by omega, hoj, r⟩

theorem dom_none {i : Nat} {f : Int → Option V} (h : Dom kf ids ok nm i f) {x : Int} (hf : f x = none) (h0 : 0 ≤ x) : ∀ j, j < i → ok j = true → ¬ Reach kf (ids j) x := by
  intro j
  induction j using Nat.strongRecOn with
  | _ j ih =>
    intro hj hoj hr
    have : f x = some (nm j) := (h x (nm j)).2 ⟨h0, j, hj, hoj, hr, fun j' hj' hoj' => ih j' hj' (by omega) hoj', rfl⟩
    rw [hf] at this
    cases this

/-- What is assigned has been seen; what has been seen (0 and up) is assigned. -/
theorem dom_seen {i : Nat} {f : Int → Option V} {S : Int → Bool} (h : Dom kf ids ok nm i f) (hS : Seen kf ids ok i S) (x : Int) : (f x ≠ none → S x = true) ∧ (0 ≤ x → f x = none → S x = false) := by
  refine ⟨fun hf => ?_, fun h0 hf => ?_⟩
  · cases hx : f x with
    | none => exact absurd hx hf
    | some v =>
      obtain ⟨_, j, hj, ho, hr, _⟩ := (h x v).1 hx
      exact (hS x).2 ⟨j, hj, ho, hr⟩
  · cases hs : S x with
    | false => rfl
    | true =>
      obtain ⟨j, hj, ho, hr⟩ := (hS x).1 hs
      exact absurd hr (dom_none h hf h0 j hj ho)

/-- What a root adds: whatever it reaches that no earlier one reached. -/
theorem dom_next {i : Nat} {f g : Int → Option V} (h : Dom kf ids ok nm i f) (ho : ok i = true)
    (hg : ∀ x, (f x ≠ none → g x = f x) ∧ (f x = none → 0 ≤ x → Reach kf (ids i) x → g x = some (nm i)) ∧ (f x = none → ¬ (0 ≤ x ∧ Reach kf (ids i) x) → g x = none)) : Dom kf ids ok nm (i + 1) g := by
  intro x v
  obtain ⟨h1, h2, h3⟩ := hg x
  cases hf : f x with
  | some u =>
    rw [h1 (by rw [hf]; simp), hf]
    have hd := (h x u).1 hf
    constructor
    · intro e
      cases e
      obtain ⟨h0, j, hj, r⟩ := hd
      exact ⟨h0, j, by omega, r⟩
    · rintro ⟨h0, j, hj, hoj, hr, hfirst, rfl⟩
      obtain ⟨_, j', hj', hoj', hr', hfirst', rfl⟩ := hd
      rcases Nat.lt_trichotomy j j' with e | e | e
      · exact absurd hr (hfirst' j e hoj)
      · rw [e]
      · exact absurd hr' (hfirst j' e hoj')
  | none =>
    have hno : ∀ j, j < i → ok j = true → 0 ≤ x → ¬ Reach kf (ids j) x := by
      intro j
      induction j using Nat.strongRecOn with
      | _ j ih =>
        intro hj hoj h0 hr
        have : f x = some (nm j) := (h x (nm j)).2 ⟨h0, j, hj, hoj, hr, fun j' hj' hoj' => ih j' hj' (by omega) hoj' h0, rfl⟩
        rw [hf] at this
        cases this
    by_cases hc : 0 ≤ x ∧ Reach kf (ids i) x
    · rw [h2 hf hc.1 hc.2]
      constructor
      · intro e
        cases e
        exact ⟨hc.1, i, by omega, ho, hc.2, fun j' hj' hoj' => hno j' hj' hoj' hc.1, rfl⟩
      · rintro ⟨h0, j, hj, hoj, hr, hfirst, rfl⟩
        by_cases e : j = i
        · rw [e]
        · exact absurd hr (hno j (by omega) hoj h0)
    · rw [h3 hf hc]
      constructor
      · intro e; cases e
      · rintro ⟨h0, j, hj, hoj, hr, hfirst, rfl⟩
        by_cases e : j = i
        · subst e; exact absurd ⟨h0, hr⟩ hc
        · exact absurd hr (hno j (by omega) hoj h0)

theorem dom_unique {i : Nat} {f g : Int → Option V} (hf : Dom kf ids ok nm i f) (hg : Dom kf ids ok nm i g) : f = g := by
  funext x
  cases h : f x with
  | some v => exact ((hg x v).2 ((hf x v).1 h)).symm
  | none =>
    cases h2 : g x with
    | none => rfl
    | some v => rw [(hf x v).2 ((hg x v).1 h2)] at h; cases h
end

/-! ### two lists of the same items -/
theorem sub_length : ∀ (l1 l2 : List Int), l1.Nodup → (∀ x ∈ l1, x ∈ l2) → l1.length ≤ l2.length
  | [], _, _, _ => by simp
  | a :: l1, l2, hn, hs => by
    have ha := hs a (by simp)
    have hn' := List.nodup_cons.1 hn
    have := sub_length l1 (l2.erase a) hn'.2 (fun x hx => by
      have hxa : x ≠ a := fun e => hn'.1 (e ▸ hx)
      exact (List.mem_erase_of_ne hxa).2 (hs x (by simp [hx])))
    rw [List.length_erase_of_mem ha] at this
    have hp : 0 < l2.length := List.length_pos_of_mem ha
    simp
    omega

theorem same_length {l1 l2 : List Int} (h1 : l1.Nodup) (h2 : l2.Nodup) (h : ∀ x, x ∈ l1 ↔ x ∈ l2) : l1.length = l2.length :=
  Nat.le_antisymm (sub_length l1 l2 h1 fun x hx => (h x).1 hx) (sub_length l2 l1 h2 fun x hx => (h x).2 hx)

end Go.Proofs.Qxb6602669a.Graph
