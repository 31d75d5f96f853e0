/-
  A []Node ARGUMENT OPENED: the nodes as plain values.
-/
import Derived.Test.Qxb6602669aLaw3
import Derived.Deep.Fields
import Derived.ProofKit
namespace Go.Proofs.Qxb6602669a.OpenN
open Go.RowKit Go.ChangeShapes Go.WideShapes Go.Deep
open Go.Proofs.Qxb6602669a.Nodes Go.Proofs.Qxb6602669a.Law3
set_option linter.unusedVariables false

section
variable {H : Type} {enc : TypeId × Value → H} {w : World} {base : Nat} {spare : Nat → Bool} {held : Bool}

def Node36 (w : World) (b o : Nat) (nd : NodeV) : Prop := (∀ f, f < 8 → w.cell? ⟨b, o + f, none⟩ = some (nd.cell f)) ∧ nd.Ok w

/-- The children of a node. -/
theorem kids_open {fuel : Nat} {v : Value} {x : DataW H × List MemPlace} (h : DataW.trod enc Try.prog w base spare held fuel 33 [v] = some x) :
    ∃ ka kl kc kids, v = .slice ka kl kc ∧ List.length kids = kl ∧ kc ≤ maxLen ∧ kl ≤ kc ∧ (ka = none → kl = 0 ∧ kc = 0) ∧ (∀ x, ka = some x → ∀ i, i < kl → w.cell? (x.add i) = some (.int .i64 (kids.getD i 0))) ∧ ∀ k ∈ kids, (Lit.int .i64 k).wf = true := by
  rcases open_ints Try.underlying33 Try.underlying3 (by kernel_rfl) h with ⟨hcs, _⟩ | ⟨x, l, c, zs, hcs, _, hl, hm, hz, _, hcell, hwz⟩
  · cases hcs
    exact ⟨none, 0, 0, [], rfl, rfl, by unfold maxLen; omega, Nat.le_refl _, fun _ => ⟨rfl, rfl⟩, fun x e => (by cases e), fun k hk => (by cases hk)⟩
  · cases hcs
    have hle : l ≤ zs.length := by rw [hz]; split <;> omega
    refine ⟨some x, l, c, zs.take l, rfl, by simp; omega, hm, hl, fun e => (by cases e), fun y e i hi => ?_, fun k hk => hwz k (List.mem_of_mem_take hk)⟩
    cases e
    rw [hcell i (by omega)]
    simp [List.getD, hi]

set_option maxRecDepth 100000 in
theorem node_open {fuel b o : Nat} {cs : List Value} {x : DataW H × List MemPlace} (hl : cs.length = 8) (hc : ∀ f, f < 8 → w.cell? ⟨b, o + f, none⟩ = cs[f]?) (h : DataW.trod enc Try.prog w base spare held fuel 36 cs = some x) : ∃ nd, Node36 w b o nd := by
  obtain ⟨xs, n, _, _, _, hxl, hf⟩ := DataW.trod_struct Try.underlying36 h
  match cs, hl with
  | [v0, v1, v2, v3, v4, v5, v6, v7], _ =>
    match xs, hxl with
    | [y0, y1, y2, y3, y4, y5, y6, y7], _ =>
      obtain ⟨n0, e0, _, w0⟩ := DataW.trod_int Try.underlying3 (show DataW.trod enc Try.prog w base spare held n 3 [v0] = some y0 from hf 0 _ rfl)
      obtain ⟨s1, e1, _, w1⟩ := DataW.trod_string Try.underlying9 (show DataW.trod enc Try.prog w base spare held n 9 [v1] = some y1 from hf 1 _ rfl)
      obtain ⟨s2, e2, _, w2⟩ := DataW.trod_string Try.underlying9 (show DataW.trod enc Try.prog w base spare held n 9 [v2] = some y2 from hf 2 _ rfl)
      obtain ⟨n3, e3, _, w3⟩ := DataW.trod_int Try.underlying3 (show DataW.trod enc Try.prog w base spare held n 3 [v3] = some y3 from hf 3 _ rfl)
      obtain ⟨ka, kl, kc, kids, e4, k1, k2, k3, k4, k5, k6⟩ := kids_open (show DataW.trod enc Try.prog w base spare held n 33 [v4] = some y4 from hf 4 _ rfl)
      obtain ⟨s5, e5, _, w5⟩ := DataW.trod_string Try.underlying9 (show DataW.trod enc Try.prog w base spare held n 9 [v5] = some y5 from hf 5 _ rfl)
      obtain ⟨p6, e6⟩ : ∃ p, v6 = .pointer p := by
        rcases DataW.trod_pointer Try.underlying34 (show DataW.trod enc Try.prog w base spare held n 34 [v6] = some y6 from hf 6 _ rfl) with ⟨e, _⟩ | ⟨a, _, _, _, _, e, _⟩
        · cases e; exact ⟨_, rfl⟩
        · cases e; exact ⟨_, rfl⟩
      obtain ⟨s7, e7, _, w7⟩ := DataW.trod_string Try.underlying9 (show DataW.trod enc Try.prog w base spare held n 9 [v7] = some y7 from hf 7 _ rfl)
      cases e0; cases e1; cases e2; cases e3; cases e4; cases e5; cases e6; cases e7
      refine ⟨⟨n0, s1, s2, n3, ka, kl, kc, kids, s5, p6, s7⟩, fun f hlt => ?_, ⟨w0, w1, w2, w5, w7, k1, k2, k3, k4, k5, k6⟩⟩
      rw [hc f hlt]
      match f, hlt with
      | 0, _ => rfl
      | 1, _ => rfl
      | 2, _ => rfl
      | 3, _ => rfl
      | 4, _ => rfl
      | 5, _ => rfl
      | 6, _ => rfl
      | 7, _ => rfl
      | k + 8, h => omega

theorem nodes_open {fuel : Nat} {a : Option Addr} {len cap : Nat} {x : DataW H × List MemPlace} (h : DataW.trod enc Try.prog w base spare held fuel 22 [.slice a len cap] = some x) : ∃ ns, NodesAt w a len cap ns := by
  rcases open_slice Try.underlying22 h with ⟨hcs, _⟩ | ⟨ad, l, c, m, n, D, Pl, hcs, _, hl, hm, hmm, _, hx⟩
  · cases hcs
    exact ⟨[], rfl, Nat.le_refl _, by unfold maxLen; omega, fun _ => ⟨rfl, rfl⟩, .inl rfl, fun nd hn => (by cases hn)⟩
  · cases hcs
    have hlm : len ≤ m := by rw [hmm]; split <;> omega
    have hC : Try.prog.cellsOf 36 = 8 := by kernel_rfl
    rw [hC] at hx
    by_cases h0 : len = 0
    · subst h0
      exact ⟨[], rfl, hl, hm, fun e => (by cases e), .inl rfl, fun nd hn => (by cases hn)⟩
    · obtain ⟨b, o, spot⟩ := ad
      have hspot : spot = none := by
        obtain ⟨cs', h1, _⟩ := hx 0 (by omega)
        obtain ⟨_, hlen, hcell⟩ := World.cells?_some h1
        have h2 := hcell 0 (by omega)
        rw [List.getElem?_eq_getElem (by omega)] at h2
        simpa [Addr.add] using World.cell?_spot h2
      subst hspot
      obtain ⟨N, hN⟩ := @choose_lt NodeV ⟨noNode⟩ len (fun i nd => Node36 w b (o + i * 8) nd) (fun i hi => by
        obtain ⟨cs', h1, h2⟩ := hx i (by omega)
        obtain ⟨_, hlen, hcell⟩ := World.cells?_some h1
        refine node_open hlen (fun f hf => ?_) h2
        have := hcell f hf
        rw [add_plain, add_plain] at this
        exact this)
      have hget : ∀ i, i < len → ((List.range len).map N).getD i noNode = N i := fun i hi => by simp [List.getD, hi]
      refine ⟨(List.range len).map N, by simp, hl, hm, fun e => (by cases e), .inr ⟨b, o, rfl, fun i hi f hf => ?_⟩, fun nd hn => ?_⟩
      · rw [hget i hi]
        exact (hN i hi).1 f hf
      · obtain ⟨i, hi, rfl⟩ := List.mem_map.1 hn
        exact (hN i (List.mem_range.1 hi)).2
end

theorem spots_of {w : World} {a : Option Addr} {len cap : Nat} {ns : List NodeV} (h : NodesAt w a len cap ns) : Spots ns := by
  intro nd hn
  have ok := h.hok nd hn
  by_cases h0 : nd.kl = 0
  · exact .inl h0
  · right
    cases hka : nd.ka with
    | none => exact absurd (ok.hnone hka).1 h0
    | some x =>
      have hc := ok.hcells x hka 0 (by omega)
      obtain ⟨b, o, s⟩ := x
      have : s = none := by simpa [Addr.add] using World.cell?_spot hc
      subst this
      exact ⟨b, o, rfl⟩

end Go.Proofs.Qxb6602669a.OpenN
