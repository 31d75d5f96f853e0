/-
  WHAT THE WALKS ARE TOLD OF A []Node (or []ceph.TreeNode: the same eight fields): the nodes as plain values, their cells, their children's cells.
-/
import Derived.Test.Qxb6602669aRows
import Derived.WalkKit
import Derived.WalkSpells
import Derived.WalkLawsBesides
import Derived.Deep.QuietTactic
import Derived.BigQuiet
namespace Go.Proofs.Qxb6602669a.Nodes
open Go.RowKit
set_option linter.unusedVariables false
set_option linter.unusedSimpArgs false

/-- A node as plain values. -/
structure NodeV where
  id : Int
  name : ByteArray
  typ : ByteArray
  tid : Int
  ka : Option Addr
  kl : Nat
  kc : Nat
  kids : List Int
  status : ByteArray
  rw : Option Addr
  dc : ByteArray

def noNode : NodeV := ⟨0, .empty, .empty, 0, none, 0, 0, [], .empty, none, .empty⟩

/-- Its eight cells. -/
def NodeV.cell (nd : NodeV) : Nat → Value
  | 0 => .int .i64 nd.id
  | 1 => .string nd.name
  | 2 => .string nd.typ
  | 3 => .int .i64 nd.tid
  | 4 => .slice nd.ka nd.kl nd.kc
  | 5 => .string nd.status
  | 6 => .pointer nd.rw
  | _ => .string nd.dc

/-- What is known of one node in the world w. -/
structure NodeV.Ok (w : World) (nd : NodeV) : Prop where
  hid : (Lit.int .i64 nd.id).wf = true
  hname : nd.name.size ≤ maxLen
  htyp : nd.typ.size ≤ maxLen
  hstatus : nd.status.size ≤ maxLen
  hdc : nd.dc.size ≤ maxLen
  hlen : nd.kids.length = nd.kl
  hcap : nd.kc ≤ maxLen
  hle : nd.kl ≤ nd.kc
  hnone : nd.ka = none → nd.kl = 0 ∧ nd.kc = 0
  hcells : ∀ x, nd.ka = some x → ∀ i, i < nd.kl → w.cell? (x.add i) = some (.int .i64 (nd.kids.getD i 0))
  hwf : ∀ k ∈ nd.kids, (Lit.int .i64 k).wf = true

/-- The slice leads to these nodes. -/
structure NodesAt (w : World) (a : Option Addr) (len cap : Nat) (ns : List NodeV) : Prop where
  hlen : ns.length = len
  hle : len ≤ cap
  hcap : cap ≤ maxLen
  hnone : a = none → len = 0 ∧ cap = 0
  hcells : len = 0 ∨ ∃ b o, a = some ⟨b, o, none⟩ ∧ ∀ i, i < len → ∀ f, f < 8 → w.cell? ⟨b, o + i * 8 + f, none⟩ = some ((ns.getD i noNode).cell f)
  hok : ∀ nd ∈ ns, nd.Ok w

theorem NodesAt.node {w : World} {a : Option Addr} {len cap : Nat} {ns : List NodeV} (h : NodesAt w a len cap ns) (i : Nat) (hi : i < len) : (ns.getD i noNode).Ok w := by
  have hl := h.hlen
  apply h.hok
  have e : ns.getD i noNode = ns[i]'(by omega) := by simp [List.getD, List.getElem?_eq_getElem (show i < ns.length by omega)]
  rw [e]
  exact List.getElem_mem _

theorem drawn_more {w wr : World} (h : ∃ d, wr = w.drewN d) (m : Nat) : ∃ d, wr.drewN m = w.drewN d := by
  obtain ⟨d, rfl⟩ := h
  exact ⟨d + m, by simp⟩

/-- The cells of node k in a world that has only drawn. -/
theorem node_cells {w wr : World} {b o k : Nat} {nd : NodeV} (hw : ∃ d, wr = w.drewN d) (h : ∀ f, f < 8 → w.cell? ⟨b, o + k * 8 + f, none⟩ = some (nd.cell f)) :
    wr.cell? ⟨b, o + k * 8, none⟩ = some (.int .i64 nd.id) ∧ wr.cell? ⟨b, o + k * 8 + 1, none⟩ = some (.string nd.name) ∧ wr.cell? ⟨b, o + k * 8 + 2, none⟩ = some (.string nd.typ) ∧
    wr.cell? ⟨b, o + k * 8 + 3, none⟩ = some (.int .i64 nd.tid) ∧ wr.cell? ⟨b, o + k * 8 + 4, none⟩ = some (.slice nd.ka nd.kl nd.kc) ∧ wr.cell? ⟨b, o + k * 8 + 5, none⟩ = some (.string nd.status) ∧
    wr.cell? ⟨b, o + k * 8 + 6, none⟩ = some (.pointer nd.rw) ∧ wr.cell? ⟨b, o + k * 8 + 7, none⟩ = some (.string nd.dc) := by
  obtain ⟨d, rfl⟩ := hw
  exact ⟨h 0 (by omega), h 1 (by omega), h 2 (by omega), h 3 (by omega), h 4 (by omega), h 5 (by omega), h 6 (by omega), h 7 (by omega)⟩

set_option maxHeartbeats 2000000 in
set_option maxRecDepth 100000 in
theorem nbytes_pos (b o len cap : Nat) (ns : List NodeV) (w : World) (h : NodesAt w (some ⟨b, o, none⟩) len cap ns) (hpos : 0 < len) (hbig : len ≤ 1048576) :
    Calls Try.prog 9 #[.slice (some ⟨b, o, none⟩) len cap] w fun e w' => ∃ t : Int, e = .returned (.int .i64 t) ∧ 0 ≤ t ∧ t ≤ 1048577 ∧ ∃ d, w' = w.drewN d := by
  obtain ⟨b', o', e, hc⟩ := h.hcells.resolve_left (by omega)
  cases e
  have HC : Hid (∀ i, i < len → ∀ f, f < 8 → w.cell? ⟨b, o + i * 8 + f, none⟩ = some ((ns.getD i noNode).cell f)) := hc
  clear hc
  go_enter Try.func9, Try.ntmps9
  go_wp2
  go_loopw [3, 4] (fun t i wr => ∃ (k : Nat) (v : Int), k ≤ len ∧ i = .int .i64 k ∧ t = .int .i64 v ∧ 0 ≤ v ∧ v ≤ 1048576 ∧ Hid (∃ d, wr = w.drewN d)) (fun _ i _ => len - (intOf i).toNat)
  case atStart => exact ⟨0, 0, Nat.zero_le _, rfl, rfl, by omega, by omega, 0, rfl⟩
  case round =>
    obtain ⟨k, v, hk, rfl, rfl, hv0, hv1, hw⟩ := hrel
    by_cases hlt : k < len
    · have ok := h.node k hlt
      obtain ⟨g0, g1, g2, g3, g4, g5, g6, g7⟩ := node_cells hw.out (HC.out k hlt)
      generalize ns.getD k noNode = nd at *
      have n1 := ok.hname; have n2 := ok.htyp; have n5 := ok.hstatus; have n7 := ok.hdc; have n4 := Nat.le_trans ok.hle ok.hcap
      unfold maxLen at n1 n2 n4 n5 n7
      have hj : (k : Int) < (len : Int) := by omega
      clear ok g0 g3
      by_cases m1 : nd.name.size ≤ 1048576
      · by_cases m2 : nd.typ.size ≤ 1048576
        · by_cases m5 : nd.status.size ≤ 1048576
          · by_cases m7 : nd.dc.size ≤ 1048576
            · by_cases m4 : nd.kl ≤ 1048576
              · cases hr : nd.rw
                all_goals
                  rw [hr] at g6
                  clear hr
                  go_wp2_with fail
                  go_quiet (fail)
                  go_wp2
                  · go_ret
                    exact ⟨1048577, rfl, by omega, by omega, drawn_more hw.out _⟩
                  · go_roundw
                    case rel => exact ⟨k + 1, _, by omega, by go_num, rfl, by omega, by omega, drawn_more hw.out _⟩
                    case measure => simp [intOf]; omega
              · go_wp2
                go_ret
                exact ⟨1048577, rfl, by omega, by omega, hw.out⟩
            · go_wp2
              go_ret
              exact ⟨1048577, rfl, by omega, by omega, hw.out⟩
          · go_wp2
            go_ret
            exact ⟨1048577, rfl, by omega, by omega, hw.out⟩
        · go_wp2
          go_ret
          exact ⟨1048577, rfl, by omega, by omega, hw.out⟩
      · go_wp2
        go_ret
        exact ⟨1048577, rfl, by omega, by omega, hw.out⟩
    · go_wp2
      go_ret
      exact ⟨v, rfl, by omega, by omega, hw.out⟩

theorem nbytes_zero (a : Option Addr) (cap : Nat) (w : World) :
    Calls Try.prog 9 #[.slice a 0 cap] w fun e w' => ∃ t : Int, e = .returned (.int .i64 t) ∧ 0 ≤ t ∧ t ≤ 1048577 ∧ ∃ d, w' = w.drewN d := by
  go_enter Try.func9, Try.ntmps9
  go_wp2
  go_loop [3, 4] (fun t i => t = .int .i64 0 ∧ i = .int .i64 0) (fun _ _ => 0)
  case atStart => exact ⟨rfl, rfl⟩
  case round =>
    obtain ⟨rfl, rfl⟩ := hrel
    go_wp2
    go_ret
    exact ⟨0, rfl, by omega, by omega, 0, rfl⟩

theorem nbytes_big (a : Option Addr) (len cap : Nat) (w : World) (h : len ≤ maxLen) (hb : ¬ len ≤ 1048576) :
    Calls Try.prog 9 #[.slice a len cap] w fun e w' => ∃ t : Int, e = .returned (.int .i64 t) ∧ 0 ≤ t ∧ t ≤ 1048577 ∧ ∃ d, w' = w.drewN d := by
  unfold maxLen at h
  go_enter Try.func9, Try.ntmps9
  go_wp2
  go_ret
  exact ⟨1048577, rfl, by omega, by omega, 0, rfl⟩

/-- 'zzNodesBytes' (9): some number between 0 and the bound and one. -/
theorem nbytes_any (a : Option Addr) (len cap : Nat) (ns : List NodeV) (w : World) (h : NodesAt w a len cap ns) :
    Calls Try.prog 9 #[.slice a len cap] w fun e w' => ∃ t : Int, e = .returned (.int .i64 t) ∧ 0 ≤ t ∧ t ≤ 1048577 ∧ ∃ d, w' = w.drewN d := by
  by_cases hb : len ≤ 1048576
  · by_cases h0 : len = 0
    · subst h0; exact nbytes_zero _ _ _
    · obtain ⟨b, o, rfl, _⟩ := h.hcells.resolve_left h0
      exact nbytes_pos b o len cap ns w h (by omega) hb
  · exact nbytes_big _ _ _ _ (Nat.le_trans h.hle h.hcap) hb

end Go.Proofs.Qxb6602669a.Nodes
