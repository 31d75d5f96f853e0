/-
  THE WALK of 'zzTreeNodes' (function 10): the same nodes in a new row.
-/
import Derived.Test.Qxb6602669aNode
import Derived.StillTailTactics
namespace Go.Proofs.Qxb6602669a.Tree
open Go.RowKit
open Go.Proofs.Qxb6602669a.Nodes
set_option linter.unusedVariables false
set_option linter.unusedSimpArgs false

theorem ok_below {w w' : World} {nd : NodeV} (h : nd.Ok w) (hb : Below w.heap.size w w') : nd.Ok w' :=
  { h with hcells := fun x hx i hi => by have := h.hcells x hx i hi; rw [hb.cell (World.block_lt_of_cell? w _ this)]; exact this }

theorem nodes_below {w w' : World} {a : Option Addr} {len cap : Nat} {ns : List NodeV} (h : NodesAt w a len cap ns) (hb : Below w.heap.size w w') : NodesAt w' a len cap ns :=
  { h with
    hcells := by
      rcases h.hcells with h0 | ⟨b, o, e, hc⟩
      · exact .inl h0
      · exact .inr ⟨b, o, e, fun i hi f hf => by have := hc i hi f hf; rw [hb.cell (World.block_lt_of_cell? w _ this)]; exact this⟩
    hok := fun nd hn => ok_below (h.hok nd hn) hb }

theorem info63 : (Try.prog.info? 63).map (fun i => (i.zero, i.size, i.bytes)) = some (some (.agg #[.int .i64 0, .string ⟨#[]⟩, .string ⟨#[]⟩, .int .i64 0, .slice none 0 0, .string ⟨#[]⟩, .pointer none, .string ⟨#[]⟩]), 8, 112) := by kernel_rfl

/-- The new row so far: the first k nodes are laid. -/
def Laid (w wr : World) (len : Nat) (ns : List NodeV) (k : Nat) : Prop :=
  Below w.heap.size w wr ∧ ∃ cur : Array Value, wr.heap[w.heap.size]? = some (.cells cur 63 (0, 0)) ∧ cur.size = len * 8 ∧ ∀ i, i < k → ∀ f, f < 8 → cur[i * 8 + f]? = some ((ns.getD i noNode).cell f)

theorem Laid.there {w wr : World} {len k : Nat} {ns : List NodeV} (h : Laid w wr len ns k) (j : Nat) (hj : j < len * 8) : (∃ v, wr.cell? ⟨w.heap.size, j, none⟩ = some v) ∧ wr.frozen? ⟨w.heap.size, j, none⟩ = false := by
  obtain ⟨_, cur, hb, hs, _⟩ := h
  refine ⟨⟨cur[j]'(by omega), ?_⟩, ?_⟩
  · simp [World.cell?, hb, show j < cur.size by omega]
  · simp [World.frozen?, hb]

theorem set_row {wr : World} {g j : Nat} {cur : Array Value} {v : Value} (h : wr.heap[g]? = some (.cells cur 63 (0, 0))) : (wr.setCell ⟨g, j, none⟩ v).heap[g]? = some (.cells (cur.setIfInBounds j v) 63 (0, 0)) := by
  simp [World.setCell, Array.getElem?_modify, h]

theorem get_ne {cur : Array Value} {i j : Nat} {v : Value} (h : i ≠ j) : (cur.setIfInBounds i v)[j]? = cur[j]? := Array.getElem?_setIfInBounds_ne h
theorem get_eq {cur : Array Value} {i : Nat} {v : Value} (h : i < cur.size) : (cur.setIfInBounds i v)[i]? = some v := by simp [Array.getElem?_setIfInBounds, h]
theorem get8_0 (cur : Array Value) (n : Nat) (v0 v1 v2 v3 v4 v5 v6 v7 : Value) (hn : n + 7 < cur.size) : ((((((((cur.setIfInBounds n v0).setIfInBounds (n + 1) v1).setIfInBounds (n + 2) v2).setIfInBounds (n + 3) v3).setIfInBounds (n + 4) v4).setIfInBounds (n + 5) v5).setIfInBounds (n + 6) v6).setIfInBounds (n + 7) v7)[n]? = some v0 := by
  rw [get_ne (by omega), get_ne (by omega), get_ne (by omega), get_ne (by omega), get_ne (by omega), get_ne (by omega), get_ne (by omega), get_eq (by first | omega | (simp; omega))]
theorem get8_1 (cur : Array Value) (n : Nat) (v0 v1 v2 v3 v4 v5 v6 v7 : Value) (hn : n + 7 < cur.size) : ((((((((cur.setIfInBounds n v0).setIfInBounds (n + 1) v1).setIfInBounds (n + 2) v2).setIfInBounds (n + 3) v3).setIfInBounds (n + 4) v4).setIfInBounds (n + 5) v5).setIfInBounds (n + 6) v6).setIfInBounds (n + 7) v7)[n + 1]? = some v1 := by
  rw [get_ne (by omega), get_ne (by omega), get_ne (by omega), get_ne (by omega), get_ne (by omega), get_ne (by omega), get_eq (by first | omega | (simp; omega))]
theorem get8_2 (cur : Array Value) (n : Nat) (v0 v1 v2 v3 v4 v5 v6 v7 : Value) (hn : n + 7 < cur.size) : ((((((((cur.setIfInBounds n v0).setIfInBounds (n + 1) v1).setIfInBounds (n + 2) v2).setIfInBounds (n + 3) v3).setIfInBounds (n + 4) v4).setIfInBounds (n + 5) v5).setIfInBounds (n + 6) v6).setIfInBounds (n + 7) v7)[n + 2]? = some v2 := by
  rw [get_ne (by omega), get_ne (by omega), get_ne (by omega), get_ne (by omega), get_ne (by omega), get_eq (by first | omega | (simp; omega))]
theorem get8_3 (cur : Array Value) (n : Nat) (v0 v1 v2 v3 v4 v5 v6 v7 : Value) (hn : n + 7 < cur.size) : ((((((((cur.setIfInBounds n v0).setIfInBounds (n + 1) v1).setIfInBounds (n + 2) v2).setIfInBounds (n + 3) v3).setIfInBounds (n + 4) v4).setIfInBounds (n + 5) v5).setIfInBounds (n + 6) v6).setIfInBounds (n + 7) v7)[n + 3]? = some v3 := by
  rw [get_ne (by omega), get_ne (by omega), get_ne (by omega), get_ne (by omega), get_eq (by first | omega | (simp; omega))]
theorem get8_4 (cur : Array Value) (n : Nat) (v0 v1 v2 v3 v4 v5 v6 v7 : Value) (hn : n + 7 < cur.size) : ((((((((cur.setIfInBounds n v0).setIfInBounds (n + 1) v1).setIfInBounds (n + 2) v2).setIfInBounds (n + 3) v3).setIfInBounds (n + 4) v4).setIfInBounds (n + 5) v5).setIfInBounds (n + 6) v6).setIfInBounds (n + 7) v7)[n + 4]? = some v4 := by
  rw [get_ne (by omega), get_ne (by omega), get_ne (by omega), get_eq (by first | omega | (simp; omega))]
theorem get8_5 (cur : Array Value) (n : Nat) (v0 v1 v2 v3 v4 v5 v6 v7 : Value) (hn : n + 7 < cur.size) : ((((((((cur.setIfInBounds n v0).setIfInBounds (n + 1) v1).setIfInBounds (n + 2) v2).setIfInBounds (n + 3) v3).setIfInBounds (n + 4) v4).setIfInBounds (n + 5) v5).setIfInBounds (n + 6) v6).setIfInBounds (n + 7) v7)[n + 5]? = some v5 := by
  rw [get_ne (by omega), get_ne (by omega), get_eq (by first | omega | (simp; omega))]
theorem get8_6 (cur : Array Value) (n : Nat) (v0 v1 v2 v3 v4 v5 v6 v7 : Value) (hn : n + 7 < cur.size) : ((((((((cur.setIfInBounds n v0).setIfInBounds (n + 1) v1).setIfInBounds (n + 2) v2).setIfInBounds (n + 3) v3).setIfInBounds (n + 4) v4).setIfInBounds (n + 5) v5).setIfInBounds (n + 6) v6).setIfInBounds (n + 7) v7)[n + 6]? = some v6 := by
  rw [get_ne (by omega), get_eq (by first | omega | (simp; omega))]
theorem get8_7 (cur : Array Value) (n : Nat) (v0 v1 v2 v3 v4 v5 v6 v7 : Value) (hn : n + 7 < cur.size) : ((((((((cur.setIfInBounds n v0).setIfInBounds (n + 1) v1).setIfInBounds (n + 2) v2).setIfInBounds (n + 3) v3).setIfInBounds (n + 4) v4).setIfInBounds (n + 5) v5).setIfInBounds (n + 6) v6).setIfInBounds (n + 7) v7)[n + 7]? = some v7 := by
  rw [get_eq (by first | omega | (simp; omega))]
theorem get8_other (cur : Array Value) (n j : Nat) (v0 v1 v2 v3 v4 v5 v6 v7 : Value) (hj : j < n ∨ n + 7 < j) : ((((((((cur.setIfInBounds n v0).setIfInBounds (n + 1) v1).setIfInBounds (n + 2) v2).setIfInBounds (n + 3) v3).setIfInBounds (n + 4) v4).setIfInBounds (n + 5) v5).setIfInBounds (n + 6) v6).setIfInBounds (n + 7) v7)[j]? = cur[j]? := by
  rw [get_ne (by omega), get_ne (by omega), get_ne (by omega), get_ne (by omega), get_ne (by omega), get_ne (by omega), get_ne (by omega), get_ne (by omega)]

theorem eight (f : Nat) (h : f < 8) : f = 0 ∨ f = 1 ∨ f = 2 ∨ f = 3 ∨ f = 4 ∨ f = 5 ∨ f = 6 ∨ f = 7 := by omega

theorem laid_step {w wr : World} {len k : Nat} {ns : List NodeV} {nd : NodeV} (h : Laid w wr len ns k) (hlt : k < len) (hnd : ns.getD k noNode = nd) :
    Laid w ((((((((wr.setCell ⟨w.heap.size, k * 8, none⟩ (.int .i64 nd.id)).setCell ⟨w.heap.size, k * 8 + 1, none⟩ (.string nd.name)).setCell ⟨w.heap.size, k * 8 + 2, none⟩ (.string nd.typ)).setCell
      ⟨w.heap.size, k * 8 + 3, none⟩ (.int .i64 nd.tid)).setCell ⟨w.heap.size, k * 8 + 4, none⟩ (.slice nd.ka nd.kl nd.kc)).setCell ⟨w.heap.size, k * 8 + 5, none⟩ (.string nd.status)).setCell
      ⟨w.heap.size, k * 8 + 6, none⟩ (.pointer nd.rw)).setCell ⟨w.heap.size, k * 8 + 7, none⟩ (.string nd.dc)) len ns (k + 1) := by
  obtain ⟨hb, cur, hg, hs, hc⟩ := h
  refine ⟨((((((((hb.setCell (Nat.le_refl _) _).setCell (Nat.le_refl _) _).setCell (Nat.le_refl _) _).setCell (Nat.le_refl _) _).setCell (Nat.le_refl _) _).setCell (Nat.le_refl _) _).setCell (Nat.le_refl _) _).setCell (Nat.le_refl _) _), ?_⟩
  refine ⟨_, set_row (set_row (set_row (set_row (set_row (set_row (set_row (set_row hg))))))), by simp [hs], fun i hi f hf => ?_⟩
  by_cases hik : i = k
  · subst hik
    rw [hnd]
    have hn : i * 8 + 7 < cur.size := by omega
    rcases eight f hf with rfl | rfl | rfl | rfl | rfl | rfl | rfl | rfl
    · exact get8_0 cur (i * 8) _ _ _ _ _ _ _ _ hn
    · exact get8_1 cur (i * 8) _ _ _ _ _ _ _ _ hn
    · exact get8_2 cur (i * 8) _ _ _ _ _ _ _ _ hn
    · exact get8_3 cur (i * 8) _ _ _ _ _ _ _ _ hn
    · exact get8_4 cur (i * 8) _ _ _ _ _ _ _ _ hn
    · exact get8_5 cur (i * 8) _ _ _ _ _ _ _ _ hn
    · exact get8_6 cur (i * 8) _ _ _ _ _ _ _ _ hn
    · exact get8_7 cur (i * 8) _ _ _ _ _ _ _ _ hn
  · rw [get8_other cur (k * 8) (i * 8 + f) _ _ _ _ _ _ _ _ (by omega)]
    exact hc i (by omega) f hf

theorem Laid.drew {w wr : World} {len k : Nat} {ns : List NodeV} (h : Laid w wr len ns k) : Laid w wr.drew len ns k := ⟨h.1.drew, h.2⟩

theorem laid_start {w w1 : World} {len : Nat} {ns : List NodeV} {xs : List Value} (h : w1.ownsRow w.heap.size 63 8 (.slice (some ⟨w.heap.size, 0, none⟩) len len) len xs) (hg : w.grownBy w1 none) : Laid w w1 len ns 0 := by
  refine ⟨(Below.refl _ _).grown hg (Nat.le_refl _) (fun k e => by cases e), ?_⟩
  rcases h.2 with ⟨e, _⟩ | ⟨g, cap, cur, e, _, hb, _, _, hs, _⟩
  · cases e
  · cases e
    exact ⟨cur, hb, hs, fun i hi => by omega⟩

theorem src_cells {w wr : World} {b o k len k' : Nat} {ns : List NodeV} {nd : NodeV} (hL : Laid w wr len ns k') (h : ∀ f, f < 8 → w.cell? ⟨b, o + k * 8 + f, none⟩ = some (nd.cell f)) :
    wr.cell? ⟨b, o + k * 8, none⟩ = some (.int .i64 nd.id) ∧ wr.cell? ⟨b, o + k * 8 + 1, none⟩ = some (.string nd.name) ∧ wr.cell? ⟨b, o + k * 8 + 2, none⟩ = some (.string nd.typ) ∧
    wr.cell? ⟨b, o + k * 8 + 3, none⟩ = some (.int .i64 nd.tid) ∧ wr.cell? ⟨b, o + k * 8 + 4, none⟩ = some (.slice nd.ka nd.kl nd.kc) ∧ wr.cell? ⟨b, o + k * 8 + 5, none⟩ = some (.string nd.status) ∧
    wr.cell? ⟨b, o + k * 8 + 6, none⟩ = some (.pointer nd.rw) ∧ wr.cell? ⟨b, o + k * 8 + 7, none⟩ = some (.string nd.dc) := by
  have g : ∀ f, f < 8 → wr.cell? ⟨b, o + k * 8 + f, none⟩ = some (nd.cell f) := fun f hf => by rw [hL.1.cell (World.block_lt_of_cell? w _ (h f hf))]; exact h f hf
  exact ⟨g 0 (by omega), g 1 (by omega), g 2 (by omega), g 3 (by omega), g 4 (by omega), g 5 (by omega), g 6 (by omega), g 7 (by omega)⟩

set_option maxHeartbeats 4000000 in
set_option maxRecDepth 100000 in
theorem tree_pos (b o len cap : Nat) (ns : List NodeV) (w : World) (h : NodesAt w (some ⟨b, o, none⟩) len cap ns) (hpos : 0 < len) (hbig : len ≤ 1048576) :
    Calls Try.prog 10 #[.slice (some ⟨b, o, none⟩) len cap] w fun e w' => e = .returned (.slice (some ⟨w.heap.size, 0, none⟩) len len) ∧ Hid (Laid w w' len ns len) := by
  obtain ⟨i0, hi, hz0, hz1, hz2⟩ := info_parts info63
  obtain ⟨b', o', e, hc⟩ := h.hcells.resolve_left (by omega)
  cases e
  have HC : Hid (∀ i, i < len → ∀ f, f < 8 → w.cell? ⟨b, o + i * 8 + f, none⟩ = some ((ns.getD i noNode).cell f)) := hc
  clear hc
  have hn := fun wx => Lib.run_eql_slice_nil (P := Try.prog) wx 22 36 (some ⟨b, o, none⟩) len cap 0 0 Try.underlying22
  go_enter Try.func10, Try.ntmps10
  go_wp2_with (at_make; refine wpList_make_full _ rfl _ _ 26 rfl w.heap.size 63 i0 _ 8 Try.underlying26 hi hz0 hz1 _ _ _ _ len rfl rfl rfl rfl (by rw [hz2]; omega) (by unfold maxLen; omega) (Nat.le_refl _) ?_; intro w1 hown1 hgr1)
  have HL : Hid (Laid w w1 len ns 0) := laid_start hown1 hgr1
  clear hown1 hgr1
  go_loopw [4] (fun i wr => ∃ k : Nat, k ≤ len ∧ i = .int .i64 k ∧ Hid (Laid w wr len ns k)) (fun i _ => len - (intOf i).toNat)
  case atStart => exact ⟨0, Nat.zero_le _, rfl, HL⟩
  case round =>
    clear HL
    obtain ⟨k, hk, rfl, HL⟩ := hrel
    by_cases hlt : k < len
    · obtain ⟨g0, g1, g2, g3, g4, g5, g6, g7⟩ := src_cells HL.out (HC.out k hlt)
      obtain ⟨⟨v0, c0⟩, f0⟩ := HL.out.there (k * 8) (by omega)
      obtain ⟨⟨v1, c1⟩, f1⟩ := HL.out.there (k * 8 + 1) (by omega)
      obtain ⟨⟨v2, c2⟩, f2⟩ := HL.out.there (k * 8 + 2) (by omega)
      obtain ⟨⟨v3, c3⟩, f3⟩ := HL.out.there (k * 8 + 3) (by omega)
      obtain ⟨⟨v4, c4⟩, f4⟩ := HL.out.there (k * 8 + 4) (by omega)
      obtain ⟨⟨v5, c5⟩, f5⟩ := HL.out.there (k * 8 + 5) (by omega)
      obtain ⟨⟨v6, c6⟩, f6⟩ := HL.out.there (k * 8 + 6) (by omega)
      obtain ⟨⟨v7, c7⟩, f7⟩ := HL.out.there (k * 8 + 7) (by omega)
      have hj : (k : Int) < (len : Int) := by omega
      have HN : Hid (∃ nd, nd = ns.getD k noNode) := ⟨_, rfl⟩
      generalize hnd : ns.getD k noNode = nd at *
      have HD : Hid (ns.getD k noNode = nd) := hnd
      clear hnd
      go_wp2_with fail
      go_still_tail 44, (by kernel_rfl)
      go_wp2
      go_roundw
      case rel => exact ⟨k + 1, by omega, by go_num, (laid_step HL.out hlt HD.out).drew⟩
      case measure => simp [intOf]; omega
    · go_wp2
      go_ret
      exact ⟨rfl, (show k = len by omega) ▸ HL⟩

theorem laid_nodes {w w' : World} {a : Option Addr} {len cap : Nat} {ns : List NodeV} (h : NodesAt w a len cap ns) (hL : Laid w w' len ns len) : NodesAt w' (some ⟨w.heap.size, 0, none⟩) len len ns := by
  obtain ⟨hb, cur, hg, hs, hc⟩ := hL
  refine ⟨h.hlen, Nat.le_refl _, Nat.le_trans h.hle h.hcap, fun e => by (cases e), .inr ⟨_, _, rfl, fun i hi f hf => ?_⟩, fun nd hn => ok_below (h.hok nd hn) hb⟩
  rw [Nat.zero_add, ← hc i hi f hf]
  simp [World.cell?, hg]

theorem tree_nil (w : World) : Calls Try.prog 10 #[.slice none 0 0] w fun e w' => e = .returned (.slice none 0 0) ∧ w = w' := by
  have hn := fun wx => Lib.run_eql_slice_nil (P := Try.prog) wx 22 36 none 0 0 0 0 Try.underlying22
  go_enter Try.func10, Try.ntmps10
  go_wp2
  go_ret
  exact ⟨rfl, rfl⟩

set_option maxRecDepth 100000 in
theorem tree_empty (x : Addr) (cap : Nat) (w : World) : Calls Try.prog 10 #[.slice (some x) 0 cap] w fun e w' => e = .returned (.slice (some ⟨w.heap.size, 0, none⟩) 0 0) ∧ Below w.heap.size w w' := by
  obtain ⟨i0, hi, hz0, hz1, hz2⟩ := info_parts info63
  have hn := fun wx => Lib.run_eql_slice_nil (P := Try.prog) wx 22 36 (some x) 0 cap 0 0 Try.underlying22
  go_enter Try.func10, Try.ntmps10
  go_wp2_with (at_make; refine wpList_make_full _ rfl _ _ 26 rfl w.heap.size 63 i0 _ 8 Try.underlying26 hi hz0 hz1 _ _ _ _ 0 rfl rfl rfl rfl (by rw [hz2]; omega) (by unfold maxLen; omega) (Nat.le_refl _) ?_; intro w1 hown1 hgr1)
  have HB : Hid (Below w.heap.size w w1) := (Below.refl _ _).grown hgr1 (Nat.le_refl _) (fun k e => by cases e)
  clear hown1 hgr1
  go_loop [4] (fun i => i = .int .i64 0) (fun _ => 0)
  case atStart => rfl
  case round =>
    subst hrel
    go_wp2
    go_ret
    exact ⟨rfl, HB.out⟩

/-- 'zzTreeNodes' (10): the same nodes. -/
theorem tree_any (a : Option Addr) (len cap : Nat) (ns : List NodeV) (w : World) (h : NodesAt w a len cap ns) (hbig : len ≤ 1048576) :
    Calls Try.prog 10 #[.slice a len cap] w fun e w' => ∃ a' : Option Addr, e = .returned (.slice a' len len) ∧ NodesAt w' a' len len ns ∧ Below w.heap.size w w' := by
  by_cases h0 : len = 0
  · subst h0
    have hn : ns = [] := List.eq_nil_of_length_eq_zero h.hlen
    subst hn
    cases a with
    | none =>
      obtain ⟨_, rfl⟩ := h.hnone rfl
      exact (tree_nil w).mono fun e w' ⟨he, hw⟩ => ⟨none, he, ⟨rfl, Nat.le_refl _, by unfold maxLen; omega, fun _ => ⟨rfl, rfl⟩, .inl rfl, fun nd hn => by (simp at hn)⟩, hw ▸ Below.refl _ _⟩
    | some x =>
      exact (tree_empty x cap w).mono fun e w' ⟨he, hb⟩ => ⟨_, he, ⟨rfl, Nat.le_refl _, by unfold maxLen; omega, fun e => by (cases e), .inl rfl, fun nd hn => by (simp at hn)⟩, hb⟩
  · obtain ⟨b, o, rfl, _⟩ := h.hcells.resolve_left h0
    exact (tree_pos b o len cap ns w h (by omega) hbig).mono fun e w' ⟨he, hL⟩ => ⟨_, he, laid_nodes h hL.out, hL.out.1⟩

end Go.Proofs.Qxb6602669a.Tree
