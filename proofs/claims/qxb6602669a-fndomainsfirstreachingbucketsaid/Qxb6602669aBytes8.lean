/-
  THE WALK of 'zzBytes_FnDomainsFirstReachingBucket' (function 8): where it answers true the nodes and all their children lists are short.
-/
import Derived.Test.Qxb6602669aNode
namespace Go.Proofs.Qxb6602669a.Bytes8
open Go.RowKit
open Go.Proofs.Qxb6602669a.Nodes
set_option linter.unusedVariables false
set_option linter.unusedSimpArgs false

/-- How many children the first k nodes list. -/
def sumK (ns : List NodeV) (k : Nat) : Nat := ((ns.take k).map NodeV.kl).sum
theorem sumK_zero (ns : List NodeV) : sumK ns 0 = 0 := by simp [sumK]
theorem sumK_succ (ns : List NodeV) (k : Nat) (h : k < ns.length) : sumK ns (k + 1) = sumK ns k + (ns.getD k noNode).kl := by
  unfold sumK
  have e : ns.getD k noNode = ns[k] := by simp [List.getD, List.getElem?_eq_getElem h]
  rw [List.take_succ_eq_append_getElem h, List.map_append, List.sum_append_nat, e]
  rfl
/-- What is claimed of the answer: a name of its own, so that the walk leaves it alone. -/
def Post8 (t : Nat) (e : Ending) (w w' : World) : Prop := ∃ bb : Bool, e = .returned (.bool bb) ∧ (bb = true → t ≤ 1048576) ∧ w = w'
theorem no8 (t : Nat) (w : World) : Post8 t (.returned (.bool false)) w w := ⟨false, rfl, fun h => (by cases h), rfl⟩
theorem yes8 {t : Nat} (w : World) (h : t ≤ 1048576) : Post8 t (.returned (.bool true)) w w := ⟨true, rfl, fun _ => h, rfl⟩
theorem sumK_all (ns : List NodeV) (k : Nat) (h : ns.length ≤ k) : sumK ns k = (ns.map NodeV.kl).sum := by
  unfold sumK
  rw [List.take_of_length_le h]

set_option maxHeartbeats 4000000 in
set_option maxRecDepth 100000 in
theorem bytes_zero_zero (a : Option Addr) (cap : Nat) (a1 : Option Addr) (cap1 : Nat) (ty : ByteArray) (w : World)  (hty : ty.size ≤ maxLen) :
    Calls Try.prog 8 #[.slice a 0 cap, .slice a1 0 cap1, .string ty] w fun e w' => Post8 0 e w w' := by
  unfold maxLen at hty
  go_enter Try.func8, Try.ntmps8
  go_wp2
  go_loop [7, 8] (fun z i => z = .int .i64 0 ∧ i = .int .i64 0) (fun _ _ => 0)
  case atStart => exact ⟨rfl, rfl⟩
  case round =>
    obtain ⟨rfl, rfl⟩ := hrel
    go_wp2
    go_loop [7, 9] (fun z i => z = .int .i64 0 ∧ i = .int .i64 0) (fun _ _ => 0)
    case atStart => exact ⟨by go_num, rfl⟩
    case round =>
      obtain ⟨rfl, rfl⟩ := hrel
      go_wp2
      all_goals first
        | (go_ret; exact yes8 _ (Nat.zero_le _))
        | (go_ret; exact no8 _ _)

set_option maxHeartbeats 4000000 in
set_option maxRecDepth 100000 in
theorem bytes_zero_pos (a : Option Addr) (cap : Nat) (b1 o1 len1 cap1 : Nat) (ns1 : List NodeV) (ty : ByteArray) (w : World) (h1 : NodesAt w (some ⟨b1, o1, none⟩) len1 cap1 ns1) (hpos1 : 0 < len1) (hty : ty.size ≤ maxLen) :
    Calls Try.prog 8 #[.slice a 0 cap, .slice (some ⟨b1, o1, none⟩) len1 cap1, .string ty] w fun e w' => Post8 0 e w w' := by
  unfold maxLen at hty
  have hcap1 := Nat.le_trans h1.hle h1.hcap
  unfold maxLen at hcap1
  obtain ⟨b', o', e, hc1⟩ := h1.hcells.resolve_left (by omega)
  cases e
  have HC1 : Hid (∀ i, i < len1 → ∀ f, f < 8 → w.cell? ⟨b1, o1 + i * 8 + f, none⟩ = some ((ns1.getD i noNode).cell f)) := hc1
  clear hc1
  go_enter Try.func8, Try.ntmps8
  go_wp2
  go_loop [7, 8] (fun z i => z = .int .i64 0 ∧ i = .int .i64 0) (fun _ _ => 0)
  case atStart => exact ⟨rfl, rfl⟩
  case round =>
    obtain ⟨rfl, rfl⟩ := hrel
    by_cases hbig1 : len1 ≤ 1048576
    · go_wp2
      go_loop [7, 9] (fun z i => ∃ (k v2 : Nat), k ≤ len1 ∧ i = .int .i64 k ∧ z = .int .i64 v2 ∧ 0 ≤ v2 ∧ v2 ≤ 1048576) (fun _ i => len1 - (intOf i).toNat)
      case atStart => exact ⟨0, len1, Nat.zero_le _, rfl, by go_num, by omega, by omega⟩
      case round =>
        obtain ⟨k2, v2, hk2, rfl, rfl, hv2, hv3⟩ := hrel
        by_cases hlt2 : k2 < len1
        · have ok := h1.node k2 hlt2
          obtain ⟨g0, g1, g2, g3, g4, g5, g6, g7⟩ := node_cells (w := w) (wr := w) ⟨0, rfl⟩ (HC1.out k2 hlt2)
          have g0 := trivial; have g3 := trivial; have g6 := trivial
          generalize ns1.getD k2 noNode = nd at *
          have n1 := ok.hname; have n2 := ok.htyp; have n5 := ok.hstatus; have n7 := ok.hdc; have n4 := Nat.le_trans ok.hle ok.hcap
          unfold maxLen at n1 n2 n4 n5 n7
          have hj : (k2 : Int) < (len1 : Int) := by omega
          clear ok
          go_wp2
          all_goals first
            | (go_ret; exact no8 _ _)
            | (go_round
               case rel => exact ⟨k2 + 1, v2 + nd.name.size + nd.typ.size + nd.kl + nd.status.size + nd.dc.size, by omega, by go_num, by go_num, by omega, by omega⟩
               case measure => simp [intOf]; omega)
        · go_wp2
          all_goals first
            | (go_ret; exact yes8 _ (Nat.zero_le _))
            | (go_ret; exact no8 _ _)
    · go_wp2
      go_ret
      exact no8 _ _

set_option maxHeartbeats 4000000 in
set_option maxRecDepth 100000 in
theorem bytes_pos_zero (b o len cap : Nat) (ns : List NodeV) (a1 : Option Addr) (cap1 : Nat) (ty : ByteArray) (w : World) (h : NodesAt w (some ⟨b, o, none⟩) len cap ns) (hpos : 0 < len) (hty : ty.size ≤ maxLen) :
    Calls Try.prog 8 #[.slice (some ⟨b, o, none⟩) len cap, .slice a1 0 cap1, .string ty] w fun e w' => Post8 (len + (ns.map NodeV.kl).sum) e w w' := by
  unfold maxLen at hty
  have hl := h.hlen
  have hcap := Nat.le_trans h.hle h.hcap
  unfold maxLen at hcap
  obtain ⟨b', o', e, hc⟩ := h.hcells.resolve_left (by omega)
  cases e
  have HC : Hid (∀ i, i < len → ∀ f, f < 8 → w.cell? ⟨b, o + i * 8 + f, none⟩ = some ((ns.getD i noNode).cell f)) := hc
  clear hc
  have HL : Hid (ns.length = len) := hl
  clear hl
  go_enter Try.func8, Try.ntmps8
  by_cases hbig : len ≤ 1048576
  · go_wp2
    go_loop [7, 8] (fun z i => ∃ (k v : Nat), k ≤ len ∧ i = .int .i64 k ∧ z = .int .i64 v ∧ v ≤ 1048576 ∧ Hid (len + sumK ns k ≤ v)) (fun _ i => len - (intOf i).toNat)
    case atStart => exact ⟨0, len, Nat.zero_le _, rfl, rfl, hbig, by rw [sumK_zero]; exact Nat.le_refl _⟩
    case round =>
      obtain ⟨k, v, hk, rfl, rfl, hv1, HS⟩ := hrel
      by_cases hlt : k < len
      · have ok := h.node k hlt
        have hsum := sumK_succ ns k (by rw [HL.out]; exact hlt)
        obtain ⟨g0, g1, g2, g3, g4, g5, g6, g7⟩ := node_cells (w := w) (wr := w) ⟨0, rfl⟩ (HC.out k hlt)
        have g0 := trivial; have g3 := trivial; have g6 := trivial
        generalize ns.getD k noNode = nd at *
        have n1 := ok.hname; have n2 := ok.htyp; have n5 := ok.hstatus; have n7 := ok.hdc; have n4 := Nat.le_trans ok.hle ok.hcap
        unfold maxLen at n1 n2 n4 n5 n7
        have HQ : Hid (sumK ns (k + 1) = sumK ns k + nd.kl) := hsum
        have hj : (k : Int) < (len : Int) := by omega
        clear ok hsum
        go_wp2
        all_goals first
          | (go_ret; exact no8 _ _)
          | (go_round
             case rel => exact ⟨k + 1, v + nd.name.size + nd.typ.size + nd.kl + nd.status.size + nd.dc.size, by omega, by go_num, by go_num, by omega, show _ ≤ _ by rw [HQ.out]; have := HS.out; omega⟩
             case measure => simp [intOf]; omega)
      · have HT : Hid (len + (ns.map NodeV.kl).sum ≤ v) := (sumK_all ns k (by rw [HL.out]; omega)) ▸ HS.out
        clear HS
        go_wp2
        go_loop [7, 9] (fun z i => z = .int .i64 v ∧ i = .int .i64 0) (fun _ _ => 0)
        case atStart => exact ⟨by go_num, rfl⟩
        case round =>
          obtain ⟨rfl, rfl⟩ := hrel
          go_wp2
          all_goals first
            | (go_ret; exact yes8 _ (Nat.le_trans HT.out (by omega)))
            | (go_ret; exact no8 _ _)
  · go_wp2
    go_ret
    exact no8 _ _

set_option maxHeartbeats 4000000 in
set_option maxRecDepth 100000 in
theorem bytes_pos_pos (b o len cap : Nat) (ns : List NodeV) (b1 o1 len1 cap1 : Nat) (ns1 : List NodeV) (ty : ByteArray) (w : World) (h : NodesAt w (some ⟨b, o, none⟩) len cap ns) (hpos : 0 < len) (h1 : NodesAt w (some ⟨b1, o1, none⟩) len1 cap1 ns1) (hpos1 : 0 < len1) (hty : ty.size ≤ maxLen) :
    Calls Try.prog 8 #[.slice (some ⟨b, o, none⟩) len cap, .slice (some ⟨b1, o1, none⟩) len1 cap1, .string ty] w fun e w' => Post8 (len + (ns.map NodeV.kl).sum) e w w' := by
  unfold maxLen at hty
  have hl := h.hlen
  have hcap := Nat.le_trans h.hle h.hcap
  unfold maxLen at hcap
  obtain ⟨b', o', e, hc⟩ := h.hcells.resolve_left (by omega)
  cases e
  have HC : Hid (∀ i, i < len → ∀ f, f < 8 → w.cell? ⟨b, o + i * 8 + f, none⟩ = some ((ns.getD i noNode).cell f)) := hc
  clear hc
  have HL : Hid (ns.length = len) := hl
  clear hl
  have hcap1 := Nat.le_trans h1.hle h1.hcap
  unfold maxLen at hcap1
  obtain ⟨b', o', e, hc1⟩ := h1.hcells.resolve_left (by omega)
  cases e
  have HC1 : Hid (∀ i, i < len1 → ∀ f, f < 8 → w.cell? ⟨b1, o1 + i * 8 + f, none⟩ = some ((ns1.getD i noNode).cell f)) := hc1
  clear hc1
  go_enter Try.func8, Try.ntmps8
  by_cases hbig : len ≤ 1048576
  · go_wp2
    go_loop [7, 8] (fun z i => ∃ (k v : Nat), k ≤ len ∧ i = .int .i64 k ∧ z = .int .i64 v ∧ v ≤ 1048576 ∧ Hid (len + sumK ns k ≤ v)) (fun _ i => len - (intOf i).toNat)
    case atStart => exact ⟨0, len, Nat.zero_le _, rfl, rfl, hbig, by rw [sumK_zero]; exact Nat.le_refl _⟩
    case round =>
      obtain ⟨k, v, hk, rfl, rfl, hv1, HS⟩ := hrel
      by_cases hlt : k < len
      · have ok := h.node k hlt
        have hsum := sumK_succ ns k (by rw [HL.out]; exact hlt)
        obtain ⟨g0, g1, g2, g3, g4, g5, g6, g7⟩ := node_cells (w := w) (wr := w) ⟨0, rfl⟩ (HC.out k hlt)
        have g0 := trivial; have g3 := trivial; have g6 := trivial
        generalize ns.getD k noNode = nd at *
        have n1 := ok.hname; have n2 := ok.htyp; have n5 := ok.hstatus; have n7 := ok.hdc; have n4 := Nat.le_trans ok.hle ok.hcap
        unfold maxLen at n1 n2 n4 n5 n7
        have HQ : Hid (sumK ns (k + 1) = sumK ns k + nd.kl) := hsum
        have hj : (k : Int) < (len : Int) := by omega
        clear ok hsum
        go_wp2
        all_goals first
          | (go_ret; exact no8 _ _)
          | (go_round
             case rel => exact ⟨k + 1, v + nd.name.size + nd.typ.size + nd.kl + nd.status.size + nd.dc.size, by omega, by go_num, by go_num, by omega, show _ ≤ _ by rw [HQ.out]; have := HS.out; omega⟩
             case measure => simp [intOf]; omega)
      · have HT : Hid (len + (ns.map NodeV.kl).sum ≤ v) := (sumK_all ns k (by rw [HL.out]; omega)) ▸ HS.out
        clear HS
        by_cases hbig1 : len1 ≤ 1048576
        · go_wp2
          · go_ret; exact no8 _ _
          · go_loop [7, 9] (fun z i => ∃ (k v2 : Nat), k ≤ len1 ∧ i = .int .i64 k ∧ z = .int .i64 v2 ∧ v ≤ v2 ∧ v2 ≤ 1048576) (fun _ i => len1 - (intOf i).toNat)
            case atStart => exact ⟨0, v + len1, Nat.zero_le _, rfl, by go_num, by omega, by omega⟩
            case round =>
              obtain ⟨k2, v2, hk2, rfl, rfl, hv2, hv3⟩ := hrel
              by_cases hlt2 : k2 < len1
              · have ok := h1.node k2 hlt2
                obtain ⟨g0, g1, g2, g3, g4, g5, g6, g7⟩ := node_cells (w := w) (wr := w) ⟨0, rfl⟩ (HC1.out k2 hlt2)
                have g0 := trivial; have g3 := trivial; have g6 := trivial
                generalize ns1.getD k2 noNode = nd at *
                have n1 := ok.hname; have n2 := ok.htyp; have n5 := ok.hstatus; have n7 := ok.hdc; have n4 := Nat.le_trans ok.hle ok.hcap
                unfold maxLen at n1 n2 n4 n5 n7
                have hj : (k2 : Int) < (len1 : Int) := by omega
                clear ok
                go_wp2
                all_goals first
                  | (go_ret; exact no8 _ _)
                  | (go_round
                     case rel => exact ⟨k2 + 1, v2 + nd.name.size + nd.typ.size + nd.kl + nd.status.size + nd.dc.size, by omega, by go_num, by go_num, by omega, by omega⟩
                     case measure => simp [intOf]; omega)
              · go_wp2
                all_goals first
                  | (go_ret; exact yes8 _ (Nat.le_trans HT.out (by omega)))
                  | (go_ret; exact no8 _ _)
        · go_wp2
          go_ret
          exact no8 _ _
  · go_wp2
    go_ret
    exact no8 _ _

/-- 'zzBytes_..' (8). -/
theorem bytes_any (a : Option Addr) (len cap : Nat) (ns : List NodeV) (a1 : Option Addr) (len1 cap1 : Nat) (ns1 : List NodeV) (ty : ByteArray) (w : World) (h : NodesAt w a len cap ns) (h1 : NodesAt w a1 len1 cap1 ns1) (hty : ty.size ≤ maxLen) :
    Calls Try.prog 8 #[.slice a len cap, .slice a1 len1 cap1, .string ty] w fun e w' => Post8 (len + (ns.map NodeV.kl).sum) e w w' := by
  by_cases h0 : len = 0
  · subst h0
    have hn : ns = [] := List.eq_nil_of_length_eq_zero h.hlen
    subst hn
    by_cases h10 : len1 = 0
    · subst h10
      exact (bytes_zero_zero a cap a1 cap1 ty w hty).mono fun e w' ⟨bb, he, _, hw⟩ => ⟨bb, he, fun _ => (by simp), hw⟩
    · obtain ⟨b1, o1, rfl, _⟩ := h1.hcells.resolve_left h10
      exact (bytes_zero_pos a cap b1 o1 len1 cap1 ns1 ty w h1 (by omega) hty).mono fun e w' ⟨bb, he, _, hw⟩ => ⟨bb, he, fun _ => (by simp), hw⟩
  · obtain ⟨b, o, rfl, _⟩ := h.hcells.resolve_left h0
    by_cases h10 : len1 = 0
    · subst h10
      exact bytes_pos_zero b o len cap ns a1 cap1 ty w h (by omega) hty
    · obtain ⟨b1, o1, rfl, _⟩ := h1.hcells.resolve_left h10
      exact bytes_pos_pos b o len cap ns b1 o1 len1 cap1 ns1 ty w h (by omega) h1 (by omega) hty

end Go.Proofs.Qxb6602669a.Bytes8
