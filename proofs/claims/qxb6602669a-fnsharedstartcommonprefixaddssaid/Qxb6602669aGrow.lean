/-
  Rows of bytes that the call itself fills by 'append': what the walk of 'FnSharedStartCommonPrefixAdds' wants of them.
-/
import Derived.Test.Qxb6602669aNew
namespace Go.Proofs.Qxb6602669a.Grow
open Go.RowKit
open Go.Proofs.Qxb6602669a.Lcp Go.Proofs.Qxb6602669a.Share Go.Proofs.Qxb6602669a.New
set_option linter.unusedVariables false
set_option linter.unusedSimpArgs false

theorem row_below {w w' : World} {b o n c : Nat} {xs : List Int} (r : Row w b o n c xs) {B : Nat} (h : Below B w w') (hB : w.heap.size ≤ B) : Row w' b o n c xs :=
  ⟨r.len, r.cap, r.lim, fun i hi => by rw [h.cell (Nat.lt_of_lt_of_le (World.block_lt_of_cell? w _ (r.cells i hi)) hB)]; exact r.cells i hi, r.bytes⟩

theorem sl_below {w w' : World} {a : Option Addr} {n c : Nat} {xs : List Int} (s : Sl w a n c xs) {B : Nat} (h : Below B w w') (hB : w.heap.size ≤ B) : Sl w' a n c xs := by
  rcases s with s | ⟨b, o, e, r⟩
  · exact .inl s
  · exact .inr ⟨b, o, e, row_below r h hB⟩

/-- What is appended: nil, or cells that lie there. -/
def Src (w : World) (ao : Option Addr) (m c : Nat) (zs : List Int) : Prop :=
  zs.length = m ∧ (ao = none → m = 0 ∧ c = 0) ∧ ∀ ad, ao = some ad → ∀ j u, (zs.map (Value.int .u8))[j]? = some u → w.cell? (ad.add j) = some u

theorem src_below {w w' : World} {ao : Option Addr} {m c : Nat} {zs : List Int} (s : Src w ao m c zs) {B : Nat} (h : Below B w w') (hB : w.heap.size ≤ B) : Src w' ao m c zs :=
  ⟨s.1, s.2.1, fun ad e j u hj => by have hc := s.2.2 ad e j u hj; rw [h.cell (Nat.lt_of_lt_of_le (World.block_lt_of_cell? w _ hc) hB)]; exact hc⟩

theorem src_of_sl {w : World} {a : Option Addr} {n c : Nat} {xs : List Int} (s : Sl w a n c xs) : Src w a n c xs := by
  refine ⟨s.len, fun e => ?_, fun ad e j u hj => ?_⟩
  · rcases s with ⟨_, h1, h2, _⟩ | ⟨b, o, e', r⟩
    · exact ⟨h1, h2⟩
    · rw [e] at e'; cases e'
  · rcases s with ⟨h0, _⟩ | ⟨b, o, e', r⟩
    · rw [e] at h0; cases h0
    · rw [e] at e'
      obtain rfl := Option.some.inj e'
      have hjl : j < xs.length := by have := (List.getElem?_eq_some_iff.1 hj).1; simpa using this
      rw [Addr.add_lit, r.cells j (by rw [← r.len]; exact hjl)]
      simp [hjl] at hj
      rw [← hj]
      simp [List.getD, hjl]

theorem src_of_row {w : World} {a : Option Addr} {len cap : Nat} {zs : List Int} (h : IsRow .u8 w a len cap zs) : Src w a len cap (zs.take len) ∧ Bytes (zs.take len) := by
  rcases h with ⟨rfl, rfl, rfl, rfl⟩ | ⟨x, rfl, hl, hm, hz, hc, hw⟩
  · exact ⟨⟨rfl, fun _ => ⟨rfl, rfl⟩, fun ad e => by cases e⟩, fun n hn => by simp at hn⟩
  · refine ⟨⟨by simp; omega, fun e => (by cases e), fun ad e j u hj => ?_⟩, bytes_of_wf hw _⟩
    obtain rfl := Option.some.inj e
    have hjl : j < len := by
      have := (List.getElem?_eq_some_iff.1 hj).1
      simp at this
      omega
    rw [hc j (by omega)]
    simp [hjl, show j < zs.length by omega] at hj
    rw [← hj]
    simp [List.getD, show j < zs.length by omega]

theorem row_of_owns {w : World} {base g n cap : Nat} {zs : List Int} (h : w.ownsRow base 5 1 (.slice (some ⟨g, 0, none⟩) n cap) n (zs.map (Value.int .u8))) (hm : n ≤ 1048576) (hb : Bytes zs) : Row w g 0 n cap zs := by
  have hl : zs.length = n := by have := h.1; simpa using this
  refine ⟨hl, ?_, hm, fun i hi => ?_, hb⟩
  · rcases h.2 with ⟨e, _⟩ | ⟨g', cap', cur, e, _, _, hle, _⟩
    · cases e
    · cases e; exact hle
  · rw [Nat.zero_add, h.cellAt i (by omega)]
    simp [List.getD, show i < zs.length by omega]

theorem bytes_append {xs ys : List Int} (hx : Bytes xs) (hy : Bytes ys) : Bytes (xs ++ ys) := by
  intro n hn
  rcases List.mem_append.1 hn with h | h
  · exact hx n h
  · exact hy n h

end Go.Proofs.Qxb6602669a.Grow
