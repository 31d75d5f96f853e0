/-
  MAPS THAT THE CALL ITSELF MAKES, TOLD BY A PLAIN FUNCTION: 'MapG P k emb w b n f sz': block b of w is a map of at most n entries, of just sz entries, that holds at the key 'emb x' the value 'f x' (none: no entry). Over the kit's 'ownsMap' (Derived/Maps/Own.lean) with elements read raw: whatever element type.
-/
import Derived.Maps.OwnSet
import Derived.WalkKit
namespace Go.Proofs.Qxb6602669a.MapK
open Go.RowKit
open Go.Maps (Keyed)
set_option linter.unusedVariables false
set_option linter.unusedSimpArgs false

/-- An element read as it stands. -/
def raw (v : Value) : Option (DataW Value × List MemPlace) := some (.held v, [])

section
variable {α : Type}

/-- The map as a function, one key turned. -/
def upd [DecidableEq α] (f : α → Option Value) (x : α) (v : Value) : α → Option Value := fun y => if y = x then some v else f y
theorem upd_same [DecidableEq α] (f : α → Option Value) (x : α) (v : Value) : upd f x v x = some v := by simp [upd]
theorem upd_other [DecidableEq α] (f : α → Option Value) (x y : α) (v : Value) (h : y ≠ x) : upd f x v y = f y := by simp [upd, h]

def MapG (P : Program) (k : TypeId) (emb : α → Lit) (w : World) (b n : Nat) (f : α → Option Value) (sz : Nat) : Prop :=
  ∃ D : DataW Value, w.ownsMap P k raw b n D ∧ Maps.size D = sz ∧ ∀ x, Maps.has D (emb x) = (f x).isSome ∧ ∀ z, D.atKey (emb x) z = ((f x).map DataW.held).getD z

variable {P : Program} {k : TypeId} {emb : α → Lit} {w w' : World} {b n sz : Nat} {f : α → Option Value}

theorem mapG_made (P : Program) (k : TypeId) (emb : α → Lit) (w : World) : MapG P k emb (w.alloc (.map #[] 0)) w.heap.size 0 (fun _ => none) 0 := by
  refine ⟨_, World.ownsMap_made w P k raw, rfl, fun x => ⟨rfl, fun z => ?_⟩⟩
  exact Maps.atKey_of_not_has rfl z

theorem MapG.lt (h : MapG P k emb w b n f sz) : b < w.heap.size := let ⟨_, h, _⟩ := h; h.lt
theorem MapG.size_le (h : MapG P k emb w b n f sz) : sz ≤ n := by
  obtain ⟨D, h1, rfl, _⟩ := h
  exact h1.size_le

theorem MapG.kept {row : Option Nat} (h : MapG P k emb w b n f sz) (hg : w.grownBy w' row) (hne : some b ≠ row) : MapG P k emb w' b n f sz := by
  obtain ⟨D, h1, h2⟩ := h
  exact ⟨D, h1.kept hg hne, h2⟩

theorem MapG.block (h : MapG P k emb w b n f sz) (hb : w'.heap[b]? = w.heap[b]?) : MapG P k emb w' b n f sz := by
  obtain ⟨D, ⟨es, clock, h1, h2⟩, h3⟩ := h
  exact ⟨D, ⟨es, clock, hb.trans h1, h2⟩, h3⟩

theorem MapG.below {B : Nat} (h : MapG P k emb w b n f sz) (hb : Below B w w') (hlt : b < B) : MapG P k emb w' b n f sz := h.block (hb.block b hlt)

theorem MapG.alloc (h : MapG P k emb w b n f sz) (o : Obj) : MapG P k emb (w.alloc o) b n f sz := by
  obtain ⟨D, h1, h2⟩ := h
  exact ⟨D, h1.alloc o, h2⟩

theorem MapG.mono (h : MapG P k emb w b n f sz) {n' : Nat} (hn : n ≤ n') : MapG P k emb w b n' f sz := by
  obtain ⟨D, h1, h2⟩ := h
  exact ⟨D, h1.mono hn, h2⟩

theorem MapG.look {t e : TypeId} (h : MapG P k emb w b n f sz) (K : Keyed P k) (ht : P.underlying t = some (.map k e)) {z : Value} (hz : (zeroValue e).run P w = .ok z w) {key : Value} {x : α} (hkey : keyOf P k key = some (emb x)) :
    (Instr.lookup t (.map (some b)) key false).run P w = .ok ((f x).getD z) w := by
  obtain ⟨D, h1, _, h3⟩ := h
  obtain ⟨v, ps, hrun, hv⟩ := h1.lookup K ht hz (show raw z = some (.held z, []) from rfl) hkey
  rw [(h3 x).2] at hv
  have e1 := congrArg Prod.fst (Option.some.inj hv)
  cases hf : f x with
  | none => rw [hf] at e1; cases e1; exact hrun
  | some u => rw [hf] at e1; cases e1; exact hrun

theorem MapG.look_ok {t e : TypeId} (h : MapG P k emb w b n f sz) (K : Keyed P k) (ht : P.underlying t = some (.map k e)) {z : Value} (hz : (zeroValue e).run P w = .ok z w) {key : Value} {x : α} (hkey : keyOf P k key = some (emb x)) :
    (Instr.lookup t (.map (some b)) key true).run P w = .ok (.tuple #[(f x).getD z, .bool (f x).isSome]) w := by
  obtain ⟨D, h1, _, h3⟩ := h
  obtain ⟨v, ps, hrun, hv⟩ := h1.look_ok K ht hz (show raw z = some (.held z, []) from rfl) hkey
  rw [(h3 x).2] at hv
  rw [(h3 x).1] at hrun
  have e1 := congrArg Prod.fst (Option.some.inj hv)
  cases hf : f x with
  | none => rw [hf] at e1 hrun; cases e1; exact hrun
  | some u => rw [hf] at e1 hrun; cases e1; exact hrun

theorem MapG.put [DecidableEq α] {t e : TypeId} (h : MapG P k emb w b n f sz) (hinj : ∀ x y, emb x = emb y → x = y) (hkl : ∀ x, WideAt.IsKeyLit (emb x)) (K : Keyed P k) (ht : P.underlying t = some (.map k e)) (hn : n < maxLen) {key val : Value} {x : α} (hkey : keyOf P k key = some (emb x)) :
    ∃ w', (Instr.mapUpdate t (.map (some b)) key val).run P w = .ok () w' ∧ MapG P k emb w' b (n + 1) (upd f x val) (if (f x).isSome then sz else sz + 1) ∧ w.grownBy w' (some b) := by
  obtain ⟨D, h1, h2, h3⟩ := h
  obtain ⟨w', hrun, r1, r2⟩ := h1.update K ht hn hkey (show raw val = some (.held val, []) from rfl)
  refine ⟨w', hrun, ⟨_, r1, ?_, fun y => ?_⟩, r2⟩
  · rw [Maps.size_put (h1.tidy K), (h3 x).1, h2]
  · by_cases hy : y = x
    · subst hy
      rw [upd_same]
      exact ⟨Maps.has_put_same h1.isMap (hkl y) _, fun z => Maps.atKey_put_same h1.isMap (hkl y) _ z⟩
    · have hne : emb y ≠ emb x := fun e => hy (hinj _ _ e)
      rw [upd_other f x y val hy]
      exact ⟨(Maps.has_put_other hne _).trans (h3 y).1, fun z => (Maps.atKey_put_other hne _ z).trans ((h3 y).2 z)⟩

/-! ### at the operation, for the walk -/
variable {ops : Array Oper} {rest : List Oper} {o : Oper} {a : Act} {Q : Exit → Act → World → Prop}

/-- 'm[k]'. -/
theorem wpList_look (hg : o.guard = none) (m x : Operand) (t : TypeId) (hop : o.op = Op.lookup t m x false) (e : TypeId) (K : Keyed P k) (ht : P.underlying t = some (.map k e)) {z : Value} (hz : (zeroValue e).run P w = .ok z w)
    (hown : MapG P k emb w b n f sz) (hm : a.eval m = .map (some b)) (key : Value) (hx : a.eval x = key) (y : α) (hkey : keyOf P k key = some (emb y))
    (hK : wpList P ops Q rest (a.put o.dst ((f y).getD z)) w) : wpList P ops Q (o :: rest) a w := by
  refine wpList_plain hg fun K' hK' => ?_
  unfold Oper.wp
  simp [execOp, hop, hm, hx, hown.look K ht hz hkey, Result.andThen]
  exact hK' _ _ hK

/-- 'v, ok := m[k]'. -/
theorem wpList_look_ok (hg : o.guard = none) (m x : Operand) (t : TypeId) (hop : o.op = Op.lookup t m x true) (e : TypeId) (K : Keyed P k) (ht : P.underlying t = some (.map k e)) {z : Value} (hz : (zeroValue e).run P w = .ok z w)
    (hown : MapG P k emb w b n f sz) (hm : a.eval m = .map (some b)) (key : Value) (hx : a.eval x = key) (y : α) (hkey : keyOf P k key = some (emb y))
    (hK : wpList P ops Q rest (a.put o.dst (.tuple #[(f y).getD z, .bool (f y).isSome])) w) : wpList P ops Q (o :: rest) a w := by
  refine wpList_plain hg fun K' hK' => ?_
  unfold Oper.wp
  simp [execOp, hop, hm, hx, hown.look_ok K ht hz hkey, Result.andThen]
  exact hK' _ _ hK

/-- 'm[k] = v'. -/
theorem wpList_put [DecidableEq α] (hg : o.guard = none) (m x v : Operand) (t : TypeId) (hop : o.op = Op.mapUpdate t m x v) (e : TypeId) (hinj : ∀ x y, emb x = emb y → x = y) (hkl : ∀ x, WideAt.IsKeyLit (emb x)) (K : Keyed P k) (ht : P.underlying t = some (.map k e))
    (hown : MapG P k emb w b n f sz) (hn : n < maxLen) (hm : a.eval m = .map (some b)) (key val : Value) (hx : a.eval x = key) (hv : a.eval v = val) (y : α) (hkey : keyOf P k key = some (emb y))
    (hK : ∀ w', MapG P k emb w' b (n + 1) (upd f y val) (if (f y).isSome then sz else sz + 1) → w.grownBy w' (some b) → wpList P ops Q rest (a.put o.dst undef) w') : wpList P ops Q (o :: rest) a w := by
  refine wpList_plain hg fun K' hK' => ?_
  obtain ⟨w', hrun, r1, r2⟩ := hown.put hinj hkl K ht hn (val := val) hkey
  unfold Oper.wp
  simp [execOp, hop, hm, hx, hv, hrun, Result.andThen]
  exact hK' _ _ (hK w' r1 r2)

/-- 'len(m)'. -/
theorem wpList_len (hg : o.guard = none) (m : Operand) (t : TypeId) (hop : o.op = Op.call { callee := Callee.builtin Builtin.len, args := #[m], argTypes := #[t] }) (e : TypeId) (ht : P.underlying t = some (.map k e))
    (hown : MapG P k emb w b n f sz) (hm : a.eval m = .map (some b))
    (hK : wpList P ops Q rest (a.put o.dst (.int .i64 sz)) w) : wpList P ops Q (o :: rest) a w := by
  refine wpList_plain hg fun K' hK' => ?_
  obtain ⟨D, h1, h2, _⟩ := hown
  unfold Oper.wp
  simp [execOp, hop, resolve, invoke, builtin, hm, h1.len ht o.type, Result.andThen]
  exact hK' _ _ (by rw [h2]; exact hK)
end

/-- Keys of the kind int. -/
theorem emb_int_inj : ∀ x y : Int, Lit.int .i64 x = Lit.int .i64 y → x = y := fun x y h => by cases h; rfl
theorem emb_int_key : ∀ x : Int, WideAt.IsKeyLit (Lit.int .i64 x) := fun _ => trivial
/-- Keys of the kind string. -/
theorem emb_str_inj : ∀ x y : List UInt8, Lit.string x = Lit.string y → x = y := fun x y h => by cases h; rfl
theorem emb_str_key : ∀ x : List UInt8, WideAt.IsKeyLit (Lit.string x) := fun _ => trivial

end Go.Proofs.Qxb6602669a.MapK
