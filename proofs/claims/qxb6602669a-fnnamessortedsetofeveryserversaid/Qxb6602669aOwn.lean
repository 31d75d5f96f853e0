/-
  Laws for the walk that the two searches want: 'append(xs, src...)' onto a row of the call's own, the new slice written out, whatever the source (nil too); 'make(map[K]V, n)'.
-/
import Derived.WalkKit
import Derived.WalkSpells
namespace Go.Proofs.Qxb6602669a.OwnL
open Go.RowKit
set_option linter.unusedVariables false
set_option linter.unusedSimpArgs false

theorem run_makeMap_hint {P : Program} (t k e : TypeId) (h : P.underlying t = some (.map k e)) (n : Int) (w : World) : (Instr.makeMap t (some (.int .i64 n))).run P w = .ok (.map (some w.heap.size)) (w.alloc (.map #[] 0)) := by
  simp [Instr.makeMap, run_underlying h, asInt]
  rfl

theorem owns_shape {w : World} {base : Nat} {e : TypeId} {size n : Nat} {v : Value} {xs : List Value} (h : w.ownsRow base e size v n xs) (hv : v ≠ .slice none 0 0) : ∃ g cap, v = .slice (some ⟨g, 0, none⟩) n cap ∧ base ≤ g := by
  rcases h.2 with ⟨e, _⟩ | ⟨g, cap, cur, e, hb, _⟩
  · exact absurd e hv
  · exact ⟨g, cap, e, hb⟩

/-- 'append(xs, src...)': xs a row of the call's own that is written out; src whatever: the new slice is written out too. -/
theorem wpList_append_out {P : Program} (w : World) {ops : Array Oper} {rest : List Oper} {o : Oper} {a : Act} {Q : Exit → Act → World → Prop} (hgd : o.guard = none) (s x : Operand) (t : TypeId)
    (ho : o.op = .call { callee := .builtin .append, args := #[s, x], argTypes := #[t, t] })
    (base : Nat) (e : TypeId) (i : TypeInfo) (z : Value) (bytes : Nat) (ht : P.underlying t = some (.slice e)) (hi : P.info? e = some i) (hz : i.zero = some z)
    (hsize : i.size = 1) (hby : i.bytes = bytes) (hzs : z.cells.size = 1)
    (g n cap : Nat) (xs : List Value) (hs : a.eval s = .slice (some ⟨g, 0, none⟩) n cap) (hown : w.ownsRow base e 1 (.slice (some ⟨g, 0, none⟩) n cap) n xs)
    (ao : Option Addr) (m c : Nat) (news : List Value) (hx : a.eval x = .slice ao m c) (hl : news.length = m) (hnone : ao = none → m = 0 ∧ c = 0) (hnews : ∀ ad, ao = some ad → ∀ j u, news[j]? = some u → w.cell? (ad.add j) = some u) (h1 : ∀ u ∈ news, u.oneCell' = true)
    (h63 : n + m ≤ maxLen) (hbytes : (n + m) * bytes ≤ 140737488355328) (hbase : base ≤ w.heap.size)
    (h : ∀ g' cap' w', w'.ownsRow base e 1 (.slice (some ⟨g', 0, none⟩) (n + m) cap') (n + m) (xs ++ news) → w.grownBy w' (some g) → base ≤ g' → wpList P ops Q rest (a.put o.dst (.slice (some ⟨g', 0, none⟩) (n + m) cap')) w') : wpList P ops Q (o :: rest) a w := by
  cases ao with
  | some ad =>
    refine wpList_append_own w hgd s x t ho base e i z 1 bytes ht hi hz hsize hby hzs (by omega) _ n xs hs hown ad m c news hx (by simpa using hl) (hnews ad rfl) h1 h63 hbytes hbase ?_
    intro v' w' h2 h3 h4
    obtain ⟨g', cap', rfl, hb⟩ := owns_shape h2 (fun e => by have := (h4.1 e).1; cases this)
    exact h g' cap' w' h2 h3 hb
  | none =>
    obtain ⟨rfl, rfl⟩ := hnone rfl
    have hn : news = [] := List.eq_nil_of_length_eq_zero hl
    subst hn
    refine wpList_plain hgd fun K hK' => ?_
    have hrun := run_append_owned_none (P := P) w base t o.type e i 1 ht hi _ n xs hown
    have hbg : base ≤ g := by
      rcases hown.2 with ⟨e, _⟩ | ⟨g', cap', cur, e, hb, _⟩
      · cases e
      · cases e; exact hb
    unfold Oper.wp
    simp [execOp, ho, resolve, invoke, builtin, hs, hx, hrun, Result.andThen]
    exact hK' _ _ (by simpa using h g cap w (by simpa using hown) (World.grownBy.refl _ _) hbg)

end Go.Proofs.Qxb6602669a.OwnL
