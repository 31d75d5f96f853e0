/-
  WHAT THE WALK OF 'Names' CARRIES: which names have been met; and what sorting and compacting make of a list. 
-/
import Derived.Test.Qxb6602669aFSP
import Derived.Test.Qxb6602669aFind
import Derived.Test.Qxb6602669aOwn
import Derived.Maps.RangeWalk
import Derived.Maps.AppendAt
import Derived.Lib.SlicesCompact
import Derived.Lib.RowBridge
import Derived.Sort.OwnSorted
namespace Go.Proofs.Qxb6602669a.Names
open Go.RowKit Go.Sort
open Go.Proofs.Qxb6602669a.Fs Go.Proofs.Qxb6602669a.MapK Go.Proofs.Qxb6602669a.FSP Go.Proofs.Qxb6602669a.Find Go.Proofs.Qxb6602669a.OwnL
set_option linter.unusedVariables false
set_option linter.unusedSimpArgs false

/-! ### compacting a sorted list -/
theorem lt_of_le_ne {x y : List UInt8} (h : x ≤ y) (hne : x ≠ y) : x < y := by
  rcases List.le_iff_lt_or_eq.1 h with h | h
  · exact h
  · exact absurd h hne
theorem lt_of_le_lt {x y z : List UInt8} (h : x ≤ y) (h2 : y < z) : x < z := by
  rcases List.le_iff_lt_or_eq.1 h with h | h
  · exact List.lt_trans h h2
  · rw [h]; exact h2

theorem compact_up (d : Array (List UInt8)) (hs : ∀ i j, i ≤ j → j < d.size → d[i]! ≤ d[j]!) : ∀ m, m ≤ d.size →
    Rising (Lib.compactUpTo d m) ∧ (∀ x ∈ Lib.compactUpTo d m, ∃ j, j < m ∧ d[j]! = x) ∧ (∀ j, j < m → d[j]! ∈ Lib.compactUpTo d m)
  | 0, _ => ⟨by simp [Rising, Lib.compactUpTo], by simp [Lib.compactUpTo], fun j hj => by omega⟩
  | m + 1, hm => by
    obtain ⟨h1, h2, h3⟩ := compact_up d hs m (by omega)
    rw [Lib.compactUpTo_succ]
    by_cases hk : Lib.keeps d m = true
    · rw [if_pos hk]
      refine ⟨?_, fun x hx => ?_, fun j hj => ?_⟩
      · unfold Rising
        rw [List.pairwise_append]
        refine ⟨h1, by simp, fun x hx z hz => ?_⟩
        simp only [List.mem_singleton] at hz
        subst hz
        obtain ⟨j, hj, rfl⟩ := h2 x hx
        have hkk : m = 0 ∨ d[m]! ≠ d[m - 1]! := by simpa [Lib.keeps] using hk
        rcases hkk with h0 | hne
        · omega
        · exact lt_of_le_lt (hs j (m - 1) (by omega) (by omega)) (lt_of_le_ne (hs (m - 1) m (by omega) (by omega)) (fun e => hne e.symm))
      · rcases List.mem_append.1 hx with hx | hx
        · obtain ⟨j, hj, e⟩ := h2 x hx
          exact ⟨j, by omega, e⟩
        · simp only [List.mem_singleton] at hx
          exact ⟨m, by omega, hx.symm⟩
      · by_cases e : j = m
        · subst e; simp
        · exact List.mem_append_left _ (h3 j (by omega))
    · rw [if_neg hk, List.append_nil]
      refine ⟨h1, fun x hx => ?_, fun j hj => ?_⟩
      · obtain ⟨j, hj, e⟩ := h2 x hx
        exact ⟨j, by omega, e⟩
      · by_cases e : j = m
        · subst e
          have hkk : ¬ (j = 0 ∨ d[j]! ≠ d[j - 1]!) := by simpa [Lib.keeps] using hk
          have h0 : j ≠ 0 := fun h => hkk (.inl h)
          have he : d[j]! = d[j - 1]! := Classical.byContradiction fun h => hkk (.inr h)
          rw [he]
          exact h3 (j - 1) (by omega)
        · exact h3 j (by omega)

def sortL (L : List (List UInt8)) : List (List UInt8) := L.mergeSort fun x y => decide (x ≤ y)
def outL (L : List (List UInt8)) : List (List UInt8) := Lib.compact (sortL L)

theorem sortL_pairwise (L : List (List UInt8)) : (sortL L).Pairwise (· ≤ ·) := by
  have := List.pairwise_mergeSort (le := fun x y : List UInt8 => decide (x ≤ y)) (fun a b c h1 h2 => by simp only [decide_eq_true_eq] at *; exact List.le_trans h1 h2) (fun a b => by simp only [Bool.or_eq_true, decide_eq_true_eq]; exact List.le_total a b) L
  exact this.imp fun h => by simpa using h

theorem outL_spec (L : List (List UInt8)) : Rising (outL L) ∧ ∀ x, x ∈ outL L ↔ x ∈ L := by
  have hs : ∀ i j, i ≤ j → j < (sortL L).toArray.size → (sortL L).toArray[i]! ≤ (sortL L).toArray[j]! := by
    intro i j hij hj
    have hj' : j < (sortL L).length := by simpa using hj
    rw [getElem!_pos (sortL L).toArray j hj, getElem!_pos (sortL L).toArray i (by omega)]
    simp only [List.getElem_toArray]
    rcases Nat.lt_or_eq_of_le hij with h | h
    · exact List.pairwise_iff_getElem.1 (sortL_pairwise L) i j (by omega) hj' h
    · subst h; exact List.le_refl _
  obtain ⟨h1, h2, h3⟩ := compact_up (sortL L).toArray hs (sortL L).length (by simp)
  have hm : ∀ x, x ∈ sortL L ↔ x ∈ L := fun x => List.mem_mergeSort
  refine ⟨h1, fun x => ⟨fun hx => ?_, fun hx => ?_⟩⟩
  · obtain ⟨j, hj, e⟩ := h2 x hx
    rw [← hm, ← e, getElem!_pos (sortL L).toArray j (by simpa using hj)]
    simp
  · obtain ⟨j, hj, e⟩ := List.getElem_of_mem ((hm x).2 hx)
    have := h3 j hj
    rw [getElem!_pos (sortL L).toArray j (by simpa using hj)] at this
    simp only [List.getElem_toArray, e] at this
    exact this

theorem sortL_length (L : List (List UInt8)) : (sortL L).length = L.length := List.length_mergeSort L
theorem outL_length (L : List (List UInt8)) : (outL L).length ≤ L.length := Nat.le_trans (Lib.compact_length_le _) (by rw [sortL_length]; exact Nat.le_refl _)

/-! ### which names there are -/
def NmS (ss : List SrvV) (k : Nat) (x : List UInt8) : Prop := ∃ i, i < k ∧ key (ss.getD i noSrv).name = x
def InM (f : List UInt8 → Option Value) (x : List UInt8) : Prop := ∃ gid s, f gid = some (SrvV.val s) ∧ key s.name = x
def NmF (fs : List FsV) (k : Nat) (x : List UInt8) : Prop := ∃ i, i < k ∧ InM (fE (fs.getD i noFs).info) x

theorem NmS_succ (ss : List SrvV) (k : Nat) (x : List UInt8) : NmS ss (k + 1) x ↔ NmS ss k x ∨ key (ss.getD k noSrv).name = x := by
  constructor
  · rintro ⟨i, hi, e⟩
    by_cases h : i = k
    · subst h; exact .inr e
    · exact .inl ⟨i, by omega, e⟩
  · rintro (⟨i, hi, e⟩ | e)
    · exact ⟨i, by omega, e⟩
    · exact ⟨k, by omega, e⟩
theorem NmF_succ (fs : List FsV) (k : Nat) (x : List UInt8) : NmF fs (k + 1) x ↔ NmF fs k x ∨ InM (fE (fs.getD k noFs).info) x := by
  constructor
  · rintro ⟨i, hi, e⟩
    by_cases h : i = k
    · subst h; exact .inr e
    · exact .inl ⟨i, by omega, e⟩
  · rintro (⟨i, hi, e⟩ | e)
    · exact ⟨i, by omega, e⟩
    · exact ⟨k, by omega, e⟩
theorem InM_nil (x : List UInt8) : ¬ InM (fE []) x := by rintro ⟨g, s, h, _⟩; simp [fE_nil] at h

theorem fold_val : ∀ (es : List EntV) (f : List UInt8 → Option Value), (∀ g v, f g = some v → ∃ s, v = SrvV.val s) → ∀ g v, es.foldl (fun f e => upd f (key e.gid) e.srv.val) f g = some v → ∃ s, v = SrvV.val s
  | [], f, hf, g, v, h => hf g v h
  | e :: es, f, hf, g, v, h => by
    refine fold_val es (upd f (key e.gid) e.srv.val) (fun g' v' h' => ?_) g v h
    unfold upd at h'
    split at h'
    · cases h'; exact ⟨_, rfl⟩
    · exact hf g' v' h'
theorem fE_val {es : List EntV} {g : List UInt8} {v : Value} (h : fE es g = some v) : ∃ s, v = SrvV.val s := fold_val es _ (fun g v h => by cases h) g v h

theorem encStr_key (b : ByteArray) : encStr (key b) = .string b := by
  cases b
  simp [key]

/-- While a map is ranged over. -/
def DRel (D : DataW Value) (f : List UInt8 → Option Value) : Prop := ∀ x, Maps.has D (.string x) = (f x).isSome ∧ ∀ z, D.atKey (.string x) z = ((f x).map DataW.held).getD z
def Got (L L0 : List (List UInt8)) (f : List UInt8 → Option Value) (left : Lit → Bool) : Prop := ∀ x, x ∈ L ↔ x ∈ L0 ∨ ∃ gid s, f gid = some (SrvV.val s) ∧ left (.string gid) = false ∧ key s.name = x

theorem Got_start {D : DataW Value} {f : List UInt8 → Option Value} (h : DRel D f) (L : List (List UInt8)) : Got L L f (Maps.has D) := by
  intro x
  constructor
  · exact .inl
  · rintro (h1 | ⟨g, s, h1, h2, _⟩)
    · exact h1
    · rw [(h g).1, h1] at h2; cases h2

theorem Got_step {L L0 : List (List UInt8)} {f : List UInt8 → Option Value} {left : Lit → Bool} {g0 : List UInt8} {s0 : SrvV} (h : Got L L0 f left) (hf : f g0 = some (SrvV.val s0)) : Got (L ++ [key s0.name]) L0 f (fun z => left z && !z.sameKey (.string g0)) := by
  intro x
  rw [List.mem_append, h x, List.mem_singleton]
  constructor
  · rintro ((h1 | ⟨g, s, h1, h2, h3⟩) | h1)
    · exact .inl h1
    · exact .inr ⟨g, s, h1, by simp [h2], h3⟩
    · exact .inr ⟨g0, s0, hf, by simp [Lit.sameKey], h1.symm⟩
  · rintro (h1 | ⟨g, s, h1, h2, h3⟩)
    · exact .inl (.inl h1)
    · by_cases e : g = g0
      · subst e
        rw [hf] at h1
        have e2 : SrvV.val s0 = SrvV.val s := Option.some.inj h1
        unfold SrvV.val at e2
        have e3 : s0.name = s.name := by
          have := congrArg (fun v => match v with | Value.agg a => a[0]? | _ => none) e2
          simpa using this
        exact .inr (by rw [← h3, e3])
      · refine .inl (.inr ⟨g, s, h1, ?_, h3⟩)
        have : (Lit.string g).sameKey (.string g0) = false := by simp [Lit.sameKey, e]
        simpa [this] using h2

theorem Got_end {L L0 : List (List UInt8)} {f : List UInt8 → Option Value} {left : Lit → Bool} (h : Got L L0 f left) (hl : ∀ kl, left kl = false) : ∀ x, x ∈ L ↔ x ∈ L0 ∨ InM f x := by
  intro x
  rw [h x]
  constructor
  · rintro (h1 | ⟨g, s, h1, _, h3⟩)
    · exact .inl h1
    · exact .inr ⟨g, s, h1, h3⟩
  · rintro (h1 | ⟨g, s, h1, h3⟩)
    · exact .inl h1
    · exact .inr ⟨g, s, h1, hl _, h3⟩

/-- What the entry that has come is. -/
theorem entry_val {D : DataW Value} {es : List EntV} {g : List UInt8} {c : Value} {y : DataW Value × List MemPlace} (h : DRel D (fE es)) (hv : raw c = some y) (hat : ∀ zd, D.atKey (.string g) zd = y.1) : ∃ s : SrvV, c = SrvV.val s ∧ fE es g = some (SrvV.val s) := by
  cases hv
  cases hf : fE es g with
  | none =>
    have e1 := (h g).2 .nil
    rw [hat, hf] at e1
    cases e1
  | some v =>
    have e := (h g).2 .nil
    rw [hat, hf] at e
    cases e
    obtain ⟨s, rfl⟩ := fE_val hf
    exact ⟨s, rfl, rfl⟩

/-- The row of names so far. -/
def N1 (w wr : World) (L : List (List UInt8)) (v : Value) : Prop := Below w.heap.size w wr ∧ wr.ownsRow w.heap.size 9 1 v L.length (L.map encStr)

theorem info9 : (Try.prog.info? 9).map (fun i => (i.zero, i.size, i.bytes)) = some (some (.string ⟨#[]⟩), 1, 16) := by kernel_rfl

/-- What 'Names' hands back. -/
def Post19 (w : World) (S : List UInt8 → Prop) (bound : Nat) (e : Ending) (w' : World) : Prop :=
  Below w.heap.size w w' ∧ ∃ L, (∀ x, x ∈ L ↔ S x) ∧ L.length ≤ bound ∧ ((L = [] ∧ e = .returned (.slice none 0 0)) ∨ (L ≠ [] ∧ ∃ g cap, e = .returned (.slice (some ⟨g, 0, none⟩) (outL L).length cap) ∧ w.heap.size ≤ g ∧ g < w'.heap.size ∧ ∀ i x, (outL L)[i]? = some x → w'.cell? ⟨g, i, none⟩ = some (encStr x)))

/-- 'append(xs, y)' onto a row of the call's own, nil or not: the new slice is written out. -/
theorem wpList_append_one {P : Program} (w : World) {ops : Array Oper} {rest : List Oper} {o : Oper} {a : Act} {Q : Exit → Act → World → Prop} (hgd : o.guard = none) (s x : Operand) (t : TypeId)
    (ho : o.op = .call { callee := .builtin .append, args := #[s, x], argTypes := #[t, t] })
    (base : Nat) (e : TypeId) (i : TypeInfo) (z : Value) (bytes : Nat) (ht : P.underlying t = some (.slice e)) (hi : P.info? e = some i) (hz : i.zero = some z)
    (hsize : i.size = 1) (hby : i.bytes = bytes) (hzs : z.cells.size = 1)
    (v : Value) (n : Nat) (xs : List Value) (hs : a.eval s = v) (hown : w.ownsRow base e 1 v n xs)
    (ad : Addr) (y : Value) (c : Nat) (hx : a.eval x = .slice (some ad) 1 c) (hnews : ∀ j u, [y][j]? = some u → w.cell? (ad.add j) = some u) (h1 : y.oneCell' = true)
    (h63 : n + 1 ≤ maxLen) (hbytes : (n + 1) * bytes ≤ 140737488355328) (hbase : base ≤ w.heap.size)
    (h : ∀ g' cap' w', w'.ownsRow base e 1 (.slice (some ⟨g', 0, none⟩) (n + 1) cap') (n + 1) (xs ++ [y]) → w.grownBy w' v.ownBlock → (some g' = v.ownBlock ∨ some g' = some w.heap.size) → wpList P ops Q rest (a.put o.dst (.slice (some ⟨g', 0, none⟩) (n + 1) cap')) w') : wpList P ops Q (o :: rest) a w := by
  refine wpList_append_own_at w hgd s x t ho base e i z 1 bytes ht hi hz hsize hby hzs (by omega) v n xs hs hown ad 1 c [y] hx rfl hnews (fun u hu => by simp at hu; subst hu; exact h1) h63 hbytes hbase ?_
  intro v' w' h2 h3 h4 h5
  obtain ⟨g', cap', rfl, hb⟩ := owns_shape h2 (fun e => by have := (h4.1 e).2; omega)
  exact h g' cap' w' h2 h3 h5

end Go.Proofs.Qxb6602669a.Names
