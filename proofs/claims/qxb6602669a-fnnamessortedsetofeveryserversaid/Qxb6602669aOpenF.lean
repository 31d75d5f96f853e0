/-
  A []Server AND A []FS ARGUMENT OPENED: plain values.
-/
import Derived.Test.Qxb6602669aLaw7
import Derived.Deep.Fields
import Derived.ProofKit
namespace Go.Proofs.Qxb6602669a.OpenF
open Go.RowKit Go.ChangeShapes Go.WideShapes Go.Deep
open Go.Proofs.Qxb6602669a.Fs
set_option linter.unusedVariables false

section
variable {H : Type} {enc : TypeId × Value → H} {w : World} {base : Nat} {spare : Nat → Bool} {held : Bool}

theorem rows_open {α : Type} (d : α) {t e : TypeId} {sz fuel : Nat} {a : Option Addr} {len cap : Nat} {x : DataW H × List MemPlace} (cellF : α → Nat → Value) (Ok : α → Prop) (ht : Try.prog.underlying t = some (.slice e)) (hC : Try.prog.cellsOf e = sz) (hpos : 0 < sz)
    (elem : ∀ n cs y, cs.length = sz → DataW.trod enc Try.prog w base spare held n e cs = some y → ∃ z : α, (∀ f, f < sz → cs[f]? = some (cellF z f)) ∧ Ok z)
    (h : DataW.trod enc Try.prog w base spare held fuel t [.slice a len cap] = some x) : ∃ l : List α, l.length = len ∧ RowAt w a len cap sz (fun i => cellF (l.getD i d)) ∧ ∀ z ∈ l, Ok z := by
  rcases open_slice ht h with ⟨hcs, _⟩ | ⟨ad, l, c, m, n, D, Pl, hcs, _, hl, hm, hmm, _, hx⟩
  · cases hcs
    exact ⟨[], rfl, ⟨Nat.le_refl _, by unfold maxLen; omega, fun _ => ⟨rfl, rfl⟩, .inl rfl⟩, fun z hz => (by cases hz)⟩
  · cases hcs
    have hlm : len ≤ m := by rw [hmm]; split <;> omega
    rw [hC] at hx
    by_cases h0 : len = 0
    · subst h0
      exact ⟨[], rfl, ⟨hl, hm, fun e => (by cases e), .inl rfl⟩, fun z hz => (by cases hz)⟩
    · obtain ⟨b, o, spot⟩ := ad
      have hspot : spot = none := by
        obtain ⟨cs', h1, _⟩ := hx 0 (by omega)
        obtain ⟨_, hlen, hcell⟩ := World.cells?_some h1
        have h2 := hcell 0 hpos
        rw [List.getElem?_eq_getElem (by omega)] at h2
        simpa [Addr.add] using World.cell?_spot h2
      subst hspot
      obtain ⟨N, hN⟩ := @choose_lt α ⟨d⟩ len (fun i z => (∀ f, f < sz → w.cell? ⟨b, o + i * sz + f, none⟩ = some (cellF z f)) ∧ Ok z) (fun i hi => by
        obtain ⟨cs', h1, h2⟩ := hx i (by omega)
        obtain ⟨_, hlen, hcell⟩ := World.cells?_some h1
        obtain ⟨z, hz, hok⟩ := elem _ _ _ hlen h2
        refine ⟨z, fun f hf => ?_, hok⟩
        have := hcell f hf
        rw [add_plain, add_plain] at this
        rw [this, hz f hf])
      have hget : ∀ i, i < len → ((List.range len).map N).getD i d = N i := fun i hi => by simp [List.getD, hi]
      refine ⟨(List.range len).map N, by simp, ⟨hl, hm, fun e => (by cases e), .inr ⟨b, o, rfl, fun i hi f hf => ?_⟩⟩, fun z hz => ?_⟩
      · rw [hget i hi]
        exact (hN i hi).1 f hf
      · obtain ⟨i, hi, rfl⟩ := List.mem_map.1 hz
        exact (hN i (List.mem_range.1 hi)).2

set_option maxRecDepth 100000 in
theorem srv_open (n : Nat) (cs : List Value) (y : DataW H × List MemPlace) (hl : cs.length = 3) (h : DataW.trod enc Try.prog w base spare held n 53 cs = some y) : ∃ z : SrvV, (∀ f, f < 3 → cs[f]? = some (z.cell f)) ∧ z.Ok := by
  obtain ⟨xs, n, _, _, _, hxl, hf⟩ := DataW.trod_struct Try.underlying53 h
  match cs, hl with
  | [v0, v1, v2], _ =>
    match xs, hxl with
    | [y0, y1, y2], _ =>
      obtain ⟨s0, e0, _, w0⟩ := DataW.trod_string Try.underlying9 (show DataW.trod enc Try.prog w base spare held n 9 [v0] = some y0 from hf 0 _ rfl)
      obtain ⟨n1, e1, _, w1⟩ := DataW.trod_int Try.underlying3 (show DataW.trod enc Try.prog w base spare held n 3 [v1] = some y1 from hf 1 _ rfl)
      obtain ⟨s2, e2, _, w2⟩ := DataW.trod_string Try.underlying9 (show DataW.trod enc Try.prog w base spare held n 9 [v2] = some y2 from hf 2 _ rfl)
      cases e0; cases e1; cases e2
      refine ⟨⟨s0, n1, s2⟩, fun f hlt => ?_, ⟨w0, w2⟩⟩
      match f, hlt with
      | 0, _ => rfl
      | 1, _ => rfl
      | 2, _ => rfl
      | k + 3, h => omega

set_option maxRecDepth 100000 in
theorem ent_open (n : Nat) (cs : List Value) (y : DataW H × List MemPlace) (hl : cs.length = 4) (h : DataW.trod enc Try.prog w base spare held n 59 cs = some y) : ∃ z : EntV, (∀ f, f < 4 → cs[f]? = some (z.cell f)) ∧ z.Ok := by
  obtain ⟨xs, n, _, _, _, hxl, hf⟩ := DataW.trod_struct Try.underlying59 h
  match cs, hl with
  | [v0, v1, v2, v3], _ =>
    match xs, hxl with
    | [y0, y1], _ =>
      obtain ⟨s0, e0, _, w0⟩ := DataW.trod_string Try.underlying9 (show DataW.trod enc Try.prog w base spare held n 9 [v0] = some y0 from hf 0 _ rfl)
      obtain ⟨z, hz, hok⟩ := srv_open n [v1, v2, v3] y1 rfl (show DataW.trod enc Try.prog w base spare held n 53 [v1, v2, v3] = some y1 from hf 1 _ rfl)
      cases e0
      refine ⟨⟨s0, z⟩, fun f hlt => ?_, ⟨w0, hok⟩⟩
      match f, hlt with
      | 0, _ => rfl
      | 1, _ => exact hz 0 (by omega)
      | 2, _ => exact hz 1 (by omega)
      | 3, _ => exact hz 2 (by omega)
      | k + 4, h => omega

theorem ents_open {fuel : Nat} {v : Value} {x : DataW H × List MemPlace} (h : DataW.trod enc Try.prog w base spare held fuel 54 [v] = some x) : ∃ ia il ic info, v = .slice ia il ic ∧ EntsAt w ia il ic info := by
  obtain ⟨ia, il, ic, rfl⟩ : ∃ ia il ic, v = .slice ia il ic := by
    rcases open_slice Try.underlying54 h with ⟨e, _⟩ | ⟨ad, l, c, m, n, D, Pl, e, _⟩
    · cases e; exact ⟨_, _, _, rfl⟩
    · cases e; exact ⟨_, _, _, rfl⟩
  obtain ⟨l, h1, h2, h3⟩ := rows_open noEnt EntV.cell EntV.Ok Try.underlying54 (by kernel_rfl) (by omega) ent_open h
  exact ⟨ia, il, ic, l, rfl, h1, h2, h3⟩

theorem ints_open {fuel : Nat} {v : Value} {x : DataW H × List MemPlace} (h : DataW.trod enc Try.prog w base spare held fuel 33 [v] = some x) : ∃ a l c, v = .slice a l c ∧ l ≤ maxLen := by
  rcases open_ints Try.underlying33 Try.underlying3 (by kernel_rfl) h with ⟨hcs, _⟩ | ⟨x, l, c, zs, hcs, _, hl, hm, hz, _, hcell, hwz⟩
  · cases hcs
    exact ⟨none, 0, 0, rfl, by unfold maxLen; omega⟩
  · cases hcs
    exact ⟨_, _, _, rfl, Nat.le_trans hl hm⟩

set_option maxRecDepth 100000 in
theorem fs_open (n : Nat) (cs : List Value) (y : DataW H × List MemPlace) (hl : cs.length = 4) (h : DataW.trod enc Try.prog w base spare held n 56 cs = some y) : ∃ z : FsV, (∀ f, f < 4 → cs[f]? = some (z.cell f)) ∧ z.Ok w := by
  obtain ⟨xs, n, _, _, _, hxl, hf⟩ := DataW.trod_struct Try.underlying56 h
  match cs, hl with
  | [v0, v1, v2, v3], _ =>
    match xs, hxl with
    | [y0, y1, y2, y3], _ =>
      obtain ⟨s0, e0, _, w0⟩ := DataW.trod_string Try.underlying9 (show DataW.trod enc Try.prog w base spare held n 9 [v0] = some y0 from hf 0 _ rfl)
      obtain ⟨ia, il, ic, info, e1, hinfo⟩ := ents_open (show DataW.trod enc Try.prog w base spare held n 54 [v1] = some y1 from hf 1 _ rfl)
      obtain ⟨na, nl, nc, e2, hnl⟩ := ints_open (show DataW.trod enc Try.prog w base spare held n 33 [v2] = some y2 from hf 2 _ rfl)
      obtain ⟨da, dl, dc, e3, hdl⟩ := ints_open (show DataW.trod enc Try.prog w base spare held n 33 [v3] = some y3 from hf 3 _ rfl)
      cases e0; cases e1; cases e2; cases e3
      refine ⟨⟨s0, ia, il, ic, info, na, nl, nc, da, dl, dc⟩, fun f hlt => ?_, ⟨w0, hinfo, hnl, hdl⟩⟩
      match f, hlt with
      | 0, _ => rfl
      | 1, _ => rfl
      | 2, _ => rfl
      | 3, _ => rfl
      | k + 4, h => omega

theorem srvs_open {fuel : Nat} {a : Option Addr} {len cap : Nat} {x : DataW H × List MemPlace} (h : DataW.trod enc Try.prog w base spare held fuel 44 [.slice a len cap] = some x) : ∃ ss, SrvsAt w a len cap ss := by
  obtain ⟨l, h1, h2, h3⟩ := rows_open noSrv SrvV.cell SrvV.Ok Try.underlying44 (by kernel_rfl) (by omega) srv_open h
  exact ⟨l, h1, h2, h3⟩
theorem fss_open {fuel : Nat} {a : Option Addr} {len cap : Nat} {x : DataW H × List MemPlace} (h : DataW.trod enc Try.prog w base spare held fuel 45 [.slice a len cap] = some x) : ∃ fs, FssAt w a len cap fs := by
  obtain ⟨l, h1, h2, h3⟩ := rows_open noFs FsV.cell (FsV.Ok w) Try.underlying45 (by kernel_rfl) (by omega) fs_open h
  exact ⟨l, h1, h2, h3⟩
end

end Go.Proofs.Qxb6602669a.OpenF
