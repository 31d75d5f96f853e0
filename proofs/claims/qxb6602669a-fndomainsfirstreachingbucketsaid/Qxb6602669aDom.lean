/-
  THE WALK of '(*OSDTree).Domains' (function 11).
-/
import Derived.Test.Qxb6602669aDomP
import Derived.Deep.LoopGhost
namespace Go.Proofs.Qxb6602669a.Domains
open Go.RowKit
open Go.Maps (Keyed int_keyed keyOf_int_mk)
open Go.Proofs.Qxb6602669a.Nodes Go.Proofs.Qxb6602669a.Tree Go.Proofs.Qxb6602669a.MapK Go.Proofs.Qxb6602669a.Graph Go.Proofs.Qxb6602669a.OwnL
set_option linter.unusedVariables false
set_option linter.unusedSimpArgs false

/-- What 'Domains' hands back. -/
def DomPost (w : World) (ns : List NodeV) (typ : ByteArray) (len : Nat) (e : Ending) (w' : World) : Prop :=
  ∃ g n f L, e = .returned (.map (some g)) ∧ MapI w' g n f (List.length L) ∧ Dom (KF ns) (idz ns) (okT ns typ) (nmV ns) len f ∧ L.Nodup ∧ (∀ x, (f x).isSome ↔ x ∈ L) ∧ Below w.heap.size w w'

theorem snoc_of_length {α : Type} {l : List α} {n : Nat} (h : l.length = n + 1) : ∃ l' x, l = l' ++ [x] := by
  have hne : l ≠ [] := fun e => by rw [e] at h; cases h
  exact ⟨l.dropLast, l.getLast hne, (List.dropLast_concat_getLast hne).symm⟩

theorem own_cap {w : World} {base g n cap : Nat} {e : TypeId} {size : Nat} {xs : List Value} (h : w.ownsRow base e size (.slice (some ⟨g, 0, none⟩) n cap) n xs) : n ≤ cap := by
  rcases h.2 with ⟨e, _⟩ | ⟨g', cap', cur, e, _, _, hle, _⟩
  · cases e
  · cases e; exact hle

set_option maxHeartbeats 4000000 in
set_option maxRecDepth 100000 in
theorem dom_pos (p b o len cap : Nat) (ns : List NodeV) (typ : ByteArray) (w : World) (hcell : w.cell? ⟨p, 0, none⟩ = some (.slice (some ⟨b, o, none⟩) len cap)) (h : NodesAt w (some ⟨b, o, none⟩) len cap ns) (hpos : 0 < len) (hsum : len + sumN ns ≤ 1048576) :
    Calls Try.prog 11 #[.pointer (some ⟨p, 0, none⟩), .string typ] w fun e w' => DomPost w ns typ len e w' := by
  obtain ⟨b', o', e, hc⟩ := h.hcells.resolve_left (by omega)
  cases e
  obtain ⟨i0, hi, hz0, hz1, hz2⟩ := info_parts info3
  have HC : Hid (∀ i, i < len → ∀ f, f < 8 → w.cell? ⟨b, o + i * 8 + f, none⟩ = some ((ns.getD i noNode).cell f)) := hc
  have hpb := World.block_lt_of_cell? w _ hcell
  have hm1 := run_makeMap_hint (P := Try.prog) 64 3 33 Try.underlying64
  have hmm := @run_makeMap Try.prog
  clear hc
  go_enter Try.func11, Try.ntmps11
  go_wp2
  go_loopw [25] (fun i wr => ∃ k : Nat, k ≤ len ∧ i = .int .i64 k ∧ Hid (L1 w wr ns k)) (fun i _ => len - (intOf i).toNat)
  case atStart => exact ⟨0, Nat.zero_le _, rfl, L1_start w ns⟩
  case round =>
    obtain ⟨k, hk, rfl, HL⟩ := hrel
    by_cases hlt : k < len
    · obtain ⟨g0, g1, g2, g3, g4, g5, g6, g7⟩ := below_cells HL.out.1 (HC.out k hlt)
      obtain ⟨hbel, sz, hmap⟩ := HL.out
      have hwf := (h.node k hlt).hid
      have hj : (k : Int) < (len : Int) := by omega
      generalize hnd : ns.getD k noNode = nd at *
      have HD : Hid (ns.getD k noNode = nd) := hnd
      clear hnd
      go_wp2_with (at_mapUpdate; refine wpList_put rfl _ _ _ 64 rfl 33 emb_int_inj emb_int_key key3 Try.underlying64 (MapG.alloc hmap _) (by unfold maxLen; omega) rfl _ _ rfl rfl nd.id (keyOf_int_mk Try.underlying3 hwf) ?_; intro w2 hm2 hg2)
      have H2 : Hid (L1 w w2 ns (k + 1)) := L1_step hbel HD.out hm2 hg2
      go_roundw
      case rel => exact ⟨k + 1, by omega, by go_num, H2⟩
      case measure => simp [intOf]; omega
    · have hcell2 : ∀ o1 o2 : Obj, ((wr.alloc o1).alloc o2).cell? ⟨p, 0, none⟩ = some (.slice (some ⟨b, o, none⟩) len cap) := fun o1 o2 => by
        have hs := HL.out.1.size
        rw [World.cell?_alloc_lt _ _ _ (by simp; omega), World.cell?_alloc_lt _ _ _ (by simp; omega), HL.out.1.cell hpb, hcell]
      have HL1 : Hid (L1 w wr ns len) := (show k = len by omega) ▸ HL
      clear HL
      obtain ⟨w1, hw1⟩ : ∃ x, x = wr := ⟨_, rfl⟩
      subst hw1
      have H20 : Hid (L2 w ((w1.alloc (.map #[] 0)).alloc (.map #[] 0)) ns typ len w1.heap.size 0 (fun _ => false) (fun _ => none) [] 0) := L2_start h HL1.out
      clear HL1
      go_wp2
      clear hcell2
      go_loopw [42] (fun i wr => ∃ (k2 : Nat) (S : Int → Bool) (f : Int → Option Value) (L : List Int) (N : Nat), k2 ≤ len ∧ i = .int .i64 k2 ∧ Hid (L2 w wr ns typ len w1.heap.size k2 S f L N)) (fun i _ => len - (intOf i).toNat)
      case atStart => exact ⟨0, _, _, _, _, Nat.zero_le _, rfl, H20⟩
      case round =>
        clear H20
        obtain ⟨k2, S, f, L, N, hk2, rfl, H2⟩ := hrel
        by_cases hlt2 : k2 < len
        · obtain ⟨g0, g1, g2, g3, g4, g5, g6, g7⟩ := below_cells H2.out.bel (HC.out k2 hlt2)
          have hwf := (h.node k2 hlt2).hid
          have hj : (k2 : Int) < (len : Int) := by omega
          have HO : Hid (okT ns typ k2 = ((ns.getD k2 noNode).typ.toList == typ.toList)) := (rfl : okT ns typ k2 = _)
          have HI : Hid (idz ns k2 = (ns.getD k2 noNode).id) := (rfl : idz ns k2 = _)
          have HN : Hid (nmV ns k2 = .string (ns.getD k2 noNode).name) := (rfl : nmV ns k2 = _)
          generalize ns.getD k2 noNode = nd at *
          obtain ⟨w2, hw2⟩ : ∃ x, x = wr := ⟨_, rfl⟩
          subst hw2
          cases hq : (nd.typ.toList == typ.toList)
          · have HOk : Hid (okT ns typ k2 = false) := HO.out.trans hq
            go_wp2
            go_roundw
            case rel => exact ⟨k2 + 1, _, _, _, _, by omega, by go_num, H2.out.skip HOk.out _⟩
            case measure => simp [intOf]; omega
          · have HOk : Hid (okT ns typ k2 = true) := HO.out.trans hq
            have H30 := L3_start (nd := nd) H2.out hwf (.int .i64 nd.id) (.string nd.typ) (.int .i64 nd.tid) (.slice nd.ka nd.kl nd.kc) (.string nd.status) (.pointer nd.rw) (.string nd.dc)
            have HF0 : Hid (∀ y, f y ≠ none → S y = true) := fun y => (dom_seen H2.out.dom H2.out.seen y).1
            have HD : Hid (Dom (KF ns) (idz ns) (okT ns typ) (nmV ns) k2 f) := H2.out.dom
            have HS : Hid (Seen (KF ns) (idz ns) (okT ns typ) k2 S) := H2.out.seen
            have HH : Hid (L3 w ((w2.alloc (.cells #[.int .i64 nd.id, .string nd.name, .string nd.typ, .int .i64 nd.tid, .slice nd.ka nd.kl nd.kc, .string nd.status, .pointer nd.rw, .string nd.dc] 63)).alloc (.cells #[.int .i64 nd.id] 3)) ns len w1.heap.size w2.heap.size k2 nd.id S f (.string nd.name) S L N [nd.id] (w2.heap.size + 1) 1) := H30
            clear H30 H2 HO
            go_wp2
            clear g0 g1 g2 g3 g4 g5 g6 g7
            go_loopg [12] (potN ns S + 1) (fun gk v wr => ∃ (S1 : Int → Bool) (L1 : List Int) (N1 : Nat) (st : List Int) (m g cap : Nat), v = .slice (some ⟨g, 0, none⟩) m cap ∧ Hid (st.length = m) ∧ potN ns S1 + m ≤ gk ∧ Hid (L3 w wr ns len w1.heap.size w2.heap.size k2 nd.id S f (.string nd.name) S1 L1 N1 st g cap))
            case atStart => exact ⟨S, L, N, [nd.id], 1, _, _, rfl, rfl, Nat.le_refl _, HH⟩
            case round =>
              clear HH
              obtain ⟨S1, L1, N1, st, m, g, cap1, rfl, hm, hgk, H3⟩ := hrel
              cases m with
              | zero =>
                have hst : st = [] := List.eq_nil_of_length_eq_zero hm.out
                subst hst
                have HOv : Hid (L2 w wr ns typ len w1.heap.size (k2 + 1) S1 (domF f S S1 (.string nd.name)) L1 N1) := H3.out.over HD.out HS.out HOk.out HI.out HN.out
                go_wp2
                go_roundw
                case rel => exact ⟨k2 + 1, _, _, _, _, by omega, by go_num, HOv⟩
                case measure => simp [intOf]; omega
              | succ m =>
                obtain ⟨st, x, rfl⟩ : ∃ st' x, st = st' ++ [x] := snoc_of_length hm.out
                have hm' : st.length = m := by have := hm.out; simp at this; exact this
                subst hm'
                have hcx := H3.out.pop.2
                have hcp : st.length + 1 ≤ cap1 := by have := own_cap H3.out.own; simpa using this
                have hwx := H3.out.wf x (by simp)
                obtain ⟨szs, hsn⟩ := H3.out.sn
                have hbd := H3.out.bd
                simp only [List.length_append, List.length_singleton] at hbd
                have hlo := H3.out.lo
                have hnb := H3.out.nb
                have hhi := H3.out.hi
                have hN : N1 < maxLen := by unfold maxLen; omega
                cases hSx : S1 x
                · by_cases hx0 : 0 ≤ x
                  · have hdm := H3.out.dm
                    have hnm := H3.out.nmc
                    go_wp2_with (first
                      | (at_lookup; refine wpList_look rfl _ _ 37 rfl 4 key3 Try.underlying37 (Try.zeroValue4 _) hsn rfl _ rfl x (keyOf_int_mk Try.underlying3 hwx) ?_; rw [setF_look, hSx])
                      | (at_mapUpdate; refine wpList_put rfl _ _ _ 37 rfl 4 emb_int_inj emb_int_key key3 Try.underlying37 hsn hN rfl _ _ rfl rfl x (keyOf_int_mk Try.underlying3 hwx) ?_; intro w3 hm3 hg3; have hnm3 := hg3.cell hnm (by simp; omega); have hdm3 := MapG.kept hdm hg3 (by simp))
                      | (at_mapUpdate; refine wpList_put rfl _ _ _ 30 rfl 9 emb_int_inj emb_int_key key3 Try.underlying30 hdm3 hN rfl _ _ rfl rfl x (keyOf_int_mk Try.underlying3 hwx) ?_; intro w4 hm4 hg4))
                    have HE : Hid (L3 w w4 ns len w1.heap.size w2.heap.size k2 nd.id S f (.string nd.name) (ins x S1) (L1 ++ [x]) (N1 + 1) st g cap1) := H3.out.osd HF0.out hSx hx0 hm3 hg3 hm4 hg4
                    have hpo := pot_mono (idz ns) (kidz ns) ns.length S1 x ns.length rfl
                    have HPO : Hid (potN ns (ins x S1) ≤ potN ns S1) := hpo
                    clear hm3 hg3 hm4 hg4 hnm3 hdm3 hpo
                    go_roundg (potN ns (ins x S1) + st.length)
                    case measure => have := HPO.out; omega
                    case rel => exact ⟨_, _, _, st, _, _, _, rfl, rfl, Nat.le_refl _, HE⟩
                  · obtain ⟨szc, hch⟩ := H3.out.ch
                    obtain ⟨ao, mm, cc, hcv, hcl, hcn, hcc, hcw⟩ := child_src h x
                    have hpo : potN ns (ins x S1) + (KF ns x).length = potN ns S1 := pot_kids (idz ns) (kidz ns) ns.length S1 x hSx
                    have hmm2 : mm = (KF ns x).length := by rw [← hcl]; simp
                    have hpb : st.length + mm ≤ 2097153 := by omega
                    have HCL : Hid (((KF ns x).map (Value.int .i64)).length = mm) := hcl
                    have HCN : Hid (ao = none → mm = 0 ∧ cc = 0) := hcn
                    have HCC : Hid (∀ wr, Below w.heap.size w wr → ∀ ad, ao = some ad → ∀ j u, ((KF ns x).map (Value.int .i64))[j]? = some u → wr.cell? (ad.add j) = some u) := hcc
                    have HOW : Hid (wr.ownsRow (w2.heap.size + 1) 3 1 (.slice (some ⟨g, 0, none⟩) st.length cap1) st.length (st.map (Value.int .i64))) := H3.out.pop.1
                    have hgb := H3.out.gb
                    clear hcl hcn hcc hpo hmm2
                    obtain ⟨hgb1, hgb2⟩ := hgb
                    go_wp2_with (first
                      | (at_lookup; refine wpList_look rfl _ _ 37 rfl 4 key3 Try.underlying37 (Try.zeroValue4 _) hsn rfl _ rfl x (keyOf_int_mk Try.underlying3 hwx) ?_; rw [setF_look, hSx])
                      | (at_lookup; refine wpList_look rfl _ _ 64 rfl 33 key3 Try.underlying64 (Try.zeroValue33 _) hch3 rfl _ rfl x (keyOf_int_mk Try.underlying3 hwx) ?_; rw [hcv])
                      | (at_mapUpdate; refine wpList_put rfl _ _ _ 37 rfl 4 emb_int_inj emb_int_key key3 Try.underlying37 hsn hN rfl _ _ rfl rfl x (keyOf_int_mk Try.underlying3 hwx) ?_; intro w3 hm3 hg3; have hch3 := MapG.kept hch hg3 (by simp; omega); have hb3 := H3.out.bel.grown hg3 H3.out.bel.size (fun j e => by cases e; omega))
                      | (at_builtin; refine wpList_append_out _ rfl (.tmp 78) (.tmp 81) 33 rfl (w2.heap.size + 1) 3 i0 (.int .i64 0) 8 Try.underlying33 hi hz0 hz1 hz2 rfl g st.length cap1 _ rfl (HOW.out.kept hg3 (.inr (by simp [Value.ownBlock]; omega))) ao mm cc ((KF ns x).map (Value.int .i64)) rfl HCL.out HCN.out (HCC.out _ hb3) (ints_oneCell _ _) (by unfold maxLen; omega) (by omega) (by have := hg3.size; omega) ?_; intro g4 cap4 w4 hown4 hg4 hgb4))
                    obtain ⟨HE0, hE1, hE2⟩ := H3.out.bucket hSx (by omega) hcw HCL.out hm3 hg3 hown4 hg4
                    have HE : Hid (L3 w w4 ns len w1.heap.size w2.heap.size k2 nd.id S f (.string nd.name) (ins x S1) L1 (N1 + 1) (st ++ KF ns x) g4 cap4) := HE0
                    have HM : Hid ((st ++ KF ns x).length = st.length + mm) := hE2
                    have hME : potN ns (ins x S1) + (st.length + mm) < gk := by rw [hE2] at hE1; simp at hE1; omega
                    clear HE0 hE1 hE2 hm3 hg3 hown4 hg4 hch3 hb3
                    go_roundg (potN ns (ins x S1) + (st.length + mm))
                    case measure => exact hME
                    case rel => exact ⟨_, _, _, _, _, _, _, rfl, HM, Nat.le_refl _, HE⟩
                · go_wp2_with (at_lookup; refine wpList_look rfl _ _ 37 rfl 4 key3 Try.underlying37 (Try.zeroValue4 _) hsn rfl _ rfl x (keyOf_int_mk Try.underlying3 hwx) ?_; rw [setF_look, hSx])
                  have HE : Hid (L3 w wr ns len w1.heap.size w2.heap.size k2 nd.id S f (.string nd.name) S1 L1 N1 st g cap1) := H3.out.seen hSx
                  go_roundg (potN ns S1 + st.length)
                  case measure => omega
                  case rel => exact ⟨S1, L1, N1, st, _, _, _, rfl, rfl, Nat.le_refl _, HE⟩
        · have hfin := H2.out
          have HK : Hid (k2 = len) := (show k2 = len by omega)
          go_wp2
          go_ret
          exact ⟨_, N, f, L, rfl, hfin.dm, HK.out ▸ hfin.dom, hfin.nd, hfin.mem, hfin.bel⟩

set_option maxRecDepth 100000 in
theorem dom_zero (p cap : Nat) (a : Option Addr) (typ : ByteArray) (w : World) (hcell : w.cell? ⟨p, 0, none⟩ = some (.slice a 0 cap)) :
    Calls Try.prog 11 #[.pointer (some ⟨p, 0, none⟩), .string typ] w fun e w' => DomPost w [] typ 0 e w' := by
  have hpb := World.block_lt_of_cell? w _ hcell
  have hm1 := run_makeMap_hint (P := Try.prog) 64 3 33 Try.underlying64
  have hmm := @run_makeMap Try.prog
  have hcell1 : ∀ o1 : Obj, (w.alloc o1).cell? ⟨p, 0, none⟩ = some (.slice a 0 cap) := fun o1 => by
    rw [World.cell?_alloc_lt _ _ _ hpb, hcell]
  have hcell2 : ∀ o1 o2 o3 : Obj, (((w.alloc o1).alloc o2).alloc o3).cell? ⟨p, 0, none⟩ = some (.slice a 0 cap) := fun o1 o2 o3 => by
    have hpb' : p < w.heap.size := hpb
    rw [World.cell?_alloc_lt _ _ _ (by simp; omega), World.cell?_alloc_lt _ _ _ (by simp; omega), hcell1]
  go_enter Try.func11, Try.ntmps11
  go_wp2
  go_loop [25] (fun i => i = .int .i64 0) (fun _ => 0)
  case atStart => rfl
  case round =>
    subst hrel
    go_wp2
    go_loop [42] (fun i => i = .int .i64 0) (fun _ => 0)
    case atStart => rfl
    case round =>
      subst hrel
      go_wp2
      go_ret
      refine ⟨_, 0, fun _ => none, [], rfl, ?_, dom_start, by simp, fun x => by simp, ?_⟩
      · have := mapG_made Try.prog 3 (Lit.int .i64) (w.alloc (.map #[] 0))
        rw [World.size_alloc] at this
        exact MapG.alloc this _
      · exact ((((Below.refl _ w).alloc (Nat.le_refl _) _).alloc (by simp) _).alloc (by simp; omega) _)

/-- '(*OSDTree).Domains' (11). -/
theorem dom_any (p len cap : Nat) (a : Option Addr) (ns : List NodeV) (typ : ByteArray) (w : World) (hcell : w.cell? ⟨p, 0, none⟩ = some (.slice a len cap)) (h : NodesAt w a len cap ns) (hsum : len + sumN ns ≤ 1048576) :
    Calls Try.prog 11 #[.pointer (some ⟨p, 0, none⟩), .string typ] w fun e w' => DomPost w ns typ len e w' := by
  by_cases h0 : len = 0
  · subst h0
    have hn : ns = [] := List.eq_nil_of_length_eq_zero h.hlen
    subst hn
    exact dom_zero p cap a typ w hcell
  · obtain ⟨b, o, rfl, _⟩ := h.hcells.resolve_left h0
    exact dom_pos p b o len cap ns typ w hcell h (by omega) hsum

end Go.Proofs.Qxb6602669a.Domains
