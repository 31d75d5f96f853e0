/-
  WHAT THE WALK OF 'FnNamesSortedSetOfEveryServer' CARRIES: its own list of names; the row of what has been hit.
-/
import Derived.Test.Qxb6602669aNames
namespace Go.Proofs.Qxb6602669a.Law7
open Go.RowKit Go.Sort
open Go.Maps (Keyed)
open Go.Proofs.Qxb6602669a.Fs Go.Proofs.Qxb6602669a.MapK Go.Proofs.Qxb6602669a.FSP Go.Proofs.Qxb6602669a.Find Go.Proofs.Qxb6602669a.OwnL Go.Proofs.Qxb6602669a.Names
set_option linter.unusedVariables false
set_option linter.unusedSimpArgs false

/-! ### the last entry of a key wins -/
def gidOf (es : List EntV) (i : Nat) : List UInt8 := key (es.getD i noEnt).gid
def nmOf (es : List EntV) (i : Nat) : List UInt8 := key (es.getD i noEnt).srv.name

theorem fE_spec (es : List EntV) (g : List UInt8) (v : Value) : ∀ t, t ≤ es.length → (fE (es.take t) g = some v ↔ ∃ i, i < t ∧ gidOf es i = g ∧ SrvV.val (es.getD i noEnt).srv = v ∧ ∀ i', i < i' → i' < t → gidOf es i' ≠ g)
  | 0, _ => by simp [fE_nil]
  | t + 1, ht => by
    rw [← fE_take (show t < es.length by omega)]
    unfold upd
    by_cases hg : g = key (es.getD t noEnt).gid
    · rw [if_pos hg]
      constructor
      · intro e
        exact ⟨t, by omega, hg.symm, Option.some.inj e, fun i' h1 h2 => by omega⟩
      · rintro ⟨i, hi, h1, h2, h3⟩
        by_cases e : i = t
        · subst e; rw [h2]
        · exact absurd hg.symm (h3 t (by omega) (by omega))
    · rw [if_neg hg, fE_spec es g v t (by omega)]
      constructor
      · rintro ⟨i, hi, h1, h2, h3⟩
        exact ⟨i, by omega, h1, h2, fun i' h4 h5 => by
          by_cases e : i' = t
          · subst e; exact fun h => hg h.symm
          · exact h3 i' h4 (by omega)⟩
      · rintro ⟨i, hi, h1, h2, h3⟩
        have hne : i ≠ t := fun e => by subst e; exact hg h1.symm
        exact ⟨i, by omega, h1, h2, fun i' h4 h5 => h3 i' h4 (by omega)⟩

theorem val_name {s s' : SrvV} (e : SrvV.val s = SrvV.val s') : s.name = s'.name := by
  unfold SrvV.val at e
  have := congrArg (fun v => match v with | Value.agg a => a[0]? | _ => none) e
  simpa using this

/-- A name that the entries from t on give: each key's last entry. -/
def Tail (es : List EntV) (t : Nat) (x : List UInt8) : Prop := ∃ i, t ≤ i ∧ i < es.length ∧ (∀ i', i < i' → i' < es.length → gidOf es i' ≠ gidOf es i) ∧ nmOf es i = x

theorem Tail_zero (es : List EntV) (x : List UInt8) : Tail es 0 x ↔ InM (fE es) x := by
  constructor
  · rintro ⟨i, _, hi, h1, h2⟩
    refine ⟨gidOf es i, (es.getD i noEnt).srv, ?_, h2⟩
    have := (fE_spec es (gidOf es i) (SrvV.val (es.getD i noEnt).srv) es.length (Nat.le_refl _)).2 ⟨i, hi, rfl, rfl, h1⟩
    rwa [List.take_length] at this
  · rintro ⟨g, s, h1, h2⟩
    have h1' := h1
    rw [← List.take_length (l := es)] at h1'
    obtain ⟨i, hi, e1, e2, e3⟩ := (fE_spec es g (SrvV.val s) es.length (Nat.le_refl _)).1 h1'
    exact ⟨i, Nat.zero_le _, hi, fun i' h4 h5 => by rw [e1]; exact e3 i' h4 h5, by unfold nmOf; rw [val_name e2]; exact h2⟩
theorem Tail_end (es : List EntV) {t : Nat} (h : es.length ≤ t) (x : List UInt8) : ¬ Tail es t x := by rintro ⟨i, h1, h2, _⟩; omega
theorem Tail_new {es : List EntV} {t : Nat} (ht : t < es.length) (h : ∀ i', t < i' → i' < es.length → gidOf es i' ≠ gidOf es t) (x : List UInt8) : Tail es t x ↔ Tail es (t + 1) x ∨ nmOf es t = x := by
  constructor
  · rintro ⟨i, h1, h2, h3, h4⟩
    by_cases e : i = t
    · subst e; exact .inr h4
    · exact .inl ⟨i, by omega, h2, h3, h4⟩
  · rintro (⟨i, h1, h2, h3, h4⟩ | e)
    · exact ⟨i, by omega, h2, h3, h4⟩
    · exact ⟨t, Nat.le_refl _, ht, h, e⟩
theorem Tail_old {es : List EntV} {t i0 : Nat} (h0 : t < i0) (h1 : i0 < es.length) (h2 : gidOf es i0 = gidOf es t) (x : List UInt8) : Tail es t x ↔ Tail es (t + 1) x := by
  constructor
  · rintro ⟨i, h3, h4, h5, h6⟩
    by_cases e : i = t
    · subst e; exact absurd h2 (h5 i0 h0 h1)
    · exact ⟨i, by omega, h4, h5, h6⟩
  · rintro ⟨i, h3, h4, h5, h6⟩
    exact ⟨i, by omega, h4, h5, h6⟩

/-- The keys of the entries from t on. -/
def Live (es : List EntV) (t : Nat) (g : List UInt8) : Option Value := if (List.range es.length).any (fun i => decide (t ≤ i) && decide (gidOf es i = g)) then some (.bool true) else none
theorem Live_some {es : List EntV} {t : Nat} {g : List UInt8} : Live es t g = some (.bool true) ↔ ∃ i, t ≤ i ∧ i < es.length ∧ gidOf es i = g := by
  unfold Live
  constructor
  · intro h
    split at h
    · rename_i hc
      obtain ⟨i, hi, h2⟩ := List.any_eq_true.1 hc
      simp only [Bool.and_eq_true, decide_eq_true_eq] at h2
      exact ⟨i, h2.1, List.mem_range.1 hi, h2.2⟩
    · cases h
  · rintro ⟨i, h1, h2, h3⟩
    rw [if_pos]
    exact List.any_eq_true.2 ⟨i, List.mem_range.2 h2, by simp [h1, h3]⟩
theorem Live_cases (es : List EntV) (t : Nat) (g : List UInt8) : Live es t g = some (.bool true) ∨ Live es t g = none := by
  unfold Live; split
  · exact .inl rfl
  · exact .inr rfl
theorem Live_none {es : List EntV} {t : Nat} {g : List UInt8} (h : Live es t g = none) : ∀ i, t ≤ i → i < es.length → gidOf es i ≠ g := fun i h1 h2 h3 => by rw [Live_some.2 ⟨i, h1, h2, h3⟩] at h; cases h
theorem Live_end (es : List EntV) {t : Nat} (h : es.length ≤ t) : Live es t = fun _ => none := by
  funext g
  rcases Live_cases es t g with h1 | h1
  · obtain ⟨i, h2, h3, _⟩ := Live_some.1 h1
    omega
  · exact h1
theorem Live_new {es : List EntV} {t : Nat} (ht : t < es.length) : upd (Live es (t + 1)) (gidOf es t) (.bool true) = Live es t := by
  funext g
  unfold upd
  by_cases hg : g = gidOf es t
  · rw [if_pos hg, Live_some.2 ⟨t, Nat.le_refl _, ht, hg.symm⟩]
  · rw [if_neg hg]
    rcases Live_cases es t g with h1 | h1
    · obtain ⟨i, h2, h3, h4⟩ := Live_some.1 h1
      have : i ≠ t := fun e => by subst e; exact hg h4.symm
      rw [h1, Live_some.2 ⟨i, by omega, h3, h4⟩]
    · rcases Live_cases es (t + 1) g with h2 | h2
      · obtain ⟨i, h3, h4, h5⟩ := Live_some.1 h2
        exact absurd h5 (Live_none h1 i (by omega) h4)
      · rw [h1, h2]
theorem Live_old {es : List EntV} {t : Nat} (ht : t < es.length) (h : Live es (t + 1) (gidOf es t) = some (.bool true)) : Live es (t + 1) = Live es t := by
  rw [← Live_new ht]
  funext g
  unfold upd
  by_cases hg : g = gidOf es t
  · rw [if_pos hg, hg, h]
  · rw [if_neg hg]

/-! ### the law's own list -/
theorem N1_push1 {w wr w5 : World} {L : List (List UInt8)} {v v' : Value} {b : ByteArray} {n : Nat} {o1 : Obj} (h : N1 w wr L v) (hn : L.length = n) (hown : w5.ownsRow w.heap.size 9 1 v' (n + 1) (L.map encStr ++ [.string b])) (hg : (wr.alloc o1).grownBy w5 v.ownBlock) : N1 w w5 (L ++ [key b]) v' := by
  have hs := h.1.size
  refine ⟨(h.1.alloc hs o1).grown hg (by simp; omega) (fun k e => (h.2.lt k e).1), ?_⟩
  rw [List.length_append, List.map_append, hn, List.map_singleton, encStr_key]
  exact hown

theorem row_ne_map {w : World} {base : Nat} {e : TypeId} {size : Nat} {v : Value} {m : Nat} {xs : List Value} {b n sz : Nat} {f : List UInt8 → Option Value} (h : w.ownsRow base e size v m xs) (hm : MapS w b n f sz) : some b ≠ v.ownBlock := by
  obtain ⟨D, h1, _⟩ := hm
  obtain ⟨es, clock, hb1, _⟩ := h1
  rcases h.2 with ⟨rfl, _⟩ | ⟨g, cap, cur, rfl, _, hb, _⟩
  · simp [Value.ownBlock]
  · intro e1
    have : b = g := by simpa [Value.ownBlock] using e1
    subst this
    rw [hb1] at hb
    cases hb

/-! ### what has been hit -/
def Hit (wr : World) (H m : Nat) (T : Nat → Prop) : Prop := ∃ cur : Array Value, wr.heap[H]? = some (.cells cur 4 (0, 0)) ∧ cur.size = m ∧ ∀ i, i < m → ∃ t : Bool, cur[i]? = some (.bool t) ∧ (T i → t = true)
theorem Hit.there {wr : World} {H m : Nat} {T : Nat → Prop} (h : Hit wr H m T) {i : Nat} (hi : i < m) : (∃ v, wr.cell? ⟨H, i, none⟩ = some v) ∧ wr.frozen? ⟨H, i, none⟩ = false := by
  obtain ⟨cur, hb, hs, hc⟩ := h
  obtain ⟨t, e, _⟩ := hc i hi
  exact ⟨⟨.bool t, by simp [World.cell?, hb, e]⟩, by simp [World.frozen?, hb]⟩
theorem Hit.get {wr : World} {H m : Nat} {T : Nat → Prop} (h : Hit wr H m T) {i : Nat} (hi : i < m) (hT : T i) : wr.cell? ⟨H, i, none⟩ = some (.bool true) := by
  obtain ⟨cur, hb, hs, hc⟩ := h
  obtain ⟨t, e, ht⟩ := hc i hi
  rw [ht hT] at e
  simp [World.cell?, hb, e]
theorem Hit.set {wr : World} {H m : Nat} {T T' : Nat → Prop} (h : Hit wr H m T) {k : Nat} (hk : k < m) (hT : ∀ i, T' i → i = k ∨ T i) : Hit (wr.setCell ⟨H, k, none⟩ (.bool true)) H m T' := by
  obtain ⟨cur, hb, hs, hc⟩ := h
  refine ⟨_, set_row hb, by simp [hs], fun i hi => ?_⟩
  by_cases e : i = k
  · subst e
    exact ⟨true, by simp [Array.getElem?_setIfInBounds, hs, hi], fun _ => rfl⟩
  · obtain ⟨t, e1, e2⟩ := hc i hi
    exact ⟨t, by rw [Array.getElem?_setIfInBounds_ne (fun h => e h.symm)]; exact e1, fun hT' => e2 ((hT i hT').resolve_left e)⟩

theorem hit_start {wr : World} {base H m : Nat} (h : wr.ownsRow base 4 1 (.slice (some ⟨H, 0, none⟩) m m) m (madeCells (Value.bool false).cells (m * 1)).toList) : Hit wr H m (fun _ => False) := by
  rcases h.2 with ⟨e, _⟩ | ⟨g, cap, cur, e, _, hb, _, _, hs, h4⟩
  · cases e
  · cases e
    refine ⟨cur, hb, by omega, fun i hi => ⟨false, ?_, fun h => h.elim⟩⟩
    have e2 : (Value.bool false).cells = #[Value.bool false] := rfl
    rw [e2, toList_madeCells_one, Nat.mul_one] at h4
    have e3 : (cur.toList.take m)[i]? = (List.replicate m (Value.bool false))[i]? := by rw [h4]
    rw [List.getElem?_take_of_lt hi, List.getElem?_replicate, if_pos hi] at e3
    simpa using e3

theorem info4 : (Try.prog.info? 4).map (fun i => (i.zero, i.size, i.bytes)) = some (some (.bool false), 1, 1) := by kernel_rfl

end Go.Proofs.Qxb6602669a.Law7
