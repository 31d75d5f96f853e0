/-
  THE WALK of 'FnDomainsFirstReachingBucket' (function 3).
-/
import Derived.Test.Qxb6602669aLaw3P
import Derived.Deep.DeepMust
namespace Go.Proofs.Qxb6602669a.Law3
open Go.RowKit
open Go.Maps (Keyed int_keyed keyOf_int_mk)
open Go.Proofs.Qxb6602669a.Nodes Go.Proofs.Qxb6602669a.Tree Go.Proofs.Qxb6602669a.MapK Go.Proofs.Qxb6602669a.Graph Go.Proofs.Qxb6602669a.OwnL Go.Proofs.Qxb6602669a.Domains Go.Proofs.Qxb6602669a.Bytes8
set_option linter.unusedVariables false
set_option linter.unusedSimpArgs false

/-- The children of every node lie at a whole block's address. -/
def Spots (ns : List NodeV) : Prop := ∀ nd ∈ ns, nd.kl = 0 ∨ ∃ b o, nd.ka = some ⟨b, o, none⟩

def Post9 (len : Nat) (w : World) (e : Ending) (w' : World) : Prop := ∃ t : Int, e = .returned (.int .i64 t) ∧ 0 ≤ t ∧ t ≤ 1048577 ∧ (t ≤ 1048576 → len ≤ 1048576) ∧ Below w.heap.size w w'

theorem drewN_below (w : World) (d : Nat) : Below w.heap.size w (w.drewN d) := ⟨rfl, rfl, rfl, Nat.le_refl _, fun _ _ => rfl⟩

theorem nbytes_big' (a : Option Addr) (len cap : Nat) (w : World) (h : len ≤ maxLen) (hb : ¬ len ≤ 1048576) :
    Calls Try.prog 9 #[.slice a len cap] w fun e w' => e = .returned (.int .i64 1048577) ∧ w = w' := by
  unfold maxLen at h
  go_enter Try.func9, Try.ntmps9
  go_wp2
  go_ret
  exact ⟨rfl, rfl⟩

/-- 'zzNodesBytes' (9). -/
theorem nbytes_post (a : Option Addr) (len cap : Nat) (ns : List NodeV) (w : World) (h : NodesAt w a len cap ns) : Calls Try.prog 9 #[.slice a len cap] w fun e w' => Post9 len w e w' := by
  by_cases hb : len ≤ 1048576
  · exact (nbytes_any a len cap ns w h).mono fun e w' ⟨t, he, h0, h1, d, hd⟩ => ⟨t, he, h0, h1, fun _ => hb, hd ▸ drewN_below w d⟩
  · exact (nbytes_big' a len cap w (Nat.le_trans h.hle h.hcap) hb).mono fun e w' ⟨he, hw⟩ => ⟨1048577, he, by omega, by omega, fun h => by omega, hw ▸ Below.refl _ _⟩

theorem below_on {w w1 w2 : World} (h : Below w.heap.size w w1) (k : Below w1.heap.size w1 w2) : Below w.heap.size w w2 := h.trans (k.mono h.size)

theorem KF_none {ns : List NodeV} {len : Nat} {x : Int} (hl : ns.length = len) (h : lastTo (idz ns) len x = none) : KF ns x = [] := by
  unfold KF kidsOf
  rw [hl, h]
  rfl

/-- The children of an item that has a node. -/
theorem kid_at {w : World} {b o len cap : Nat} {ns : List NodeV} (h : NodesAt w (some ⟨b, o, none⟩) len cap ns) (hsp : Spots ns) (hc : ∀ i, i < len → ∀ f, f < 8 → w.cell? ⟨b, o + i * 8 + f, none⟩ = some ((ns.getD i noNode).cell f)) {x : Int} {j : Nat} (hj : lastTo (idz ns) len x = some j) :
    ∃ ka kl kc, (∀ wr, Below w.heap.size w wr → wr.cell? ⟨b, o + j * 8 + 4, none⟩ = some (.slice ka kl kc)) ∧ (KF ns x).length = kl ∧ kl ≤ maxLen ∧ ∀ c z, (KF ns x)[c]? = some z → (wfI z ∧ ∃ kb ko, ka = some ⟨kb, ko, none⟩ ∧ kb < w.heap.size ∧ ∀ wr, Below w.heap.size w wr → wr.cell? ⟨kb, ko + c, none⟩ = some (.int .i64 z)) := by
  have hlt := (lastTo_some _ _ _ _ hj).1
  have ok := h.node j hlt
  have hl := h.hlen
  have hmem : ns.getD j noNode ∈ ns := by
    have e : ns.getD j noNode = ns[j]'(by omega) := by simp [List.getD, List.getElem?_eq_getElem (show j < ns.length by omega)]
    rw [e]; exact List.getElem_mem _
  have hKF : KF ns x = (ns.getD j noNode).kids := by
    unfold KF kidsOf
    rw [hl, hj]
    rfl
  rw [hKF]
  refine ⟨(ns.getD j noNode).ka, (ns.getD j noNode).kl, (ns.getD j noNode).kc, fun wr hb => ?_, ok.hlen, Nat.le_trans ok.hle ok.hcap, fun c z hz => ⟨ok.hwf z (List.mem_of_getElem? hz), ?_⟩⟩
  · have := hc j hlt 4 (by omega)
    rw [hb.cell (World.block_lt_of_cell? w _ this)]
    exact this
  · have hclt := (List.getElem?_eq_some_iff.1 hz).1
    rw [ok.hlen] at hclt
    rcases hsp _ hmem with h0 | ⟨kb, ko, e⟩
    · omega
    · have hcell := ok.hcells _ e c hclt
      have e2 : (Addr.add ⟨kb, ko, none⟩ c) = ⟨kb, ko + c, none⟩ := by
        unfold Addr.add
        split
        · subst c; rfl
        · rfl
      rw [e2] at hcell
      have e3 : (ns.getD j noNode).kids.getD c 0 = z := by
        generalize (ns.getD j noNode).kids = l at hz ⊢
        simp [List.getD, hz]
      rw [e3] at hcell
      exact ⟨kb, ko, e, World.block_lt_of_cell? w _ hcell, fun wr hb => by rw [hb.cell (World.block_lt_of_cell? w _ hcell)]; exact hcell⟩

theorem one_cell (w : World) (v : Value) (t : TypeId) : ∀ (j : Nat) (u : Value), [v][j]? = some u → (w.alloc (.cells #[v] t)).cell? (Addr.add ⟨w.heap.size, 0, none⟩ j) = some u := by
  intro j u hu
  cases j with
  | zero => simp at hu; subst hu; simp [Addr.add]
  | succ j => simp at hu

theorem own_ne {v : Value} {b : Nat} (h : ∀ k, v.ownBlock = some k → b + 1 ≤ k) : v.ownBlock = none ∨ v.ownBlock ≠ some b := by
  cases e : v.ownBlock with
  | none => exact .inl rfl
  | some k => exact .inr (fun e2 => by have := h k e; cases e2; omega)

set_option maxHeartbeats 4000000 in
set_option maxRecDepth 100000 in
theorem walk (a : Option Addr) (len cap : Nat) (ns : List NodeV) (a1 : Option Addr) (len1 cap1 : Nat) (ns1 : List NodeV) (typ : ByteArray) (w : World) (h : NodesAt w a len cap ns) (h1 : NodesAt w a1 len1 cap1 ns1) (hsp : Spots ns) (hty : typ.size ≤ maxLen) :
    Calls Try.prog 3 #[.slice a len cap, .slice a1 len1 cap1, .string typ] w fun e w' => e = .returned (.bool true) ∧ Below w.heap.size w w' := by
  obtain ⟨i0, hi, hz0, hz1, hz2⟩ := info_parts info3
  have HS : Hid (Spots ns) := hsp
  have hm1 := run_makeMap_hint (P := Try.prog) 32 3 3 Try.underlying32
  have hmm := @run_makeMap Try.prog
  clear hsp
  unfold maxLen at hty
  go_enter Try.func3, Try.ntmps3
  go_wp2_with (go_at_call 8; refine (bytes_any a len cap ns a1 len1 cap1 ns1 typ _ h h1 hty).mono ?_; rintro e w' ⟨bb, rfl, hb8, rfl⟩)
  · go_ret
    exact ⟨rfl, Below.refl _ _⟩
  · go_ret
    exact ⟨rfl, Below.refl _ _⟩
  have hts : (typ.size : Int) ≤ 1048576 := by assumption
  have hbb : (!bb) = false := by assumption
  have hbt : bb = true := by cases bb; cases hbb; rfl
  have hsum := hb8 hbt
  subst hbt
  clear hb8
  refine (nbytes_post a len cap ns _ h).mono ?_
  rintro e w1 ⟨t1, rfl, t10, t11, t12, hb1⟩
  have h1' := nodes_below h1 hb1
  go_wp2_with (go_at_call 9; refine (nbytes_post a1 len1 cap1 ns1 _ h1').mono ?_; rintro e w2 ⟨t2, rfl, t20, t21, t22, hb2⟩; have hb3 := below_on hb1 hb2; have h2' := nodes_below h hb3; have h3' := nodes_below h1 hb3)
  · go_ret
    exact ⟨rfl, hb1⟩
  · go_ret
    exact ⟨rfl, hb3⟩
  · go_ret
    exact ⟨rfl, hb3⟩
  have ht1 : t1 ≤ 1048576 := by assumption
  have ht2 : t2 ≤ 1048576 := by assumption
  have hl := t12 ht1
  have hl1 := t22 ht2
  clear t12 t22 h1' hb1 hb2
  refine (tree_any a len cap ns _ h2' hl).mono ?_
  rintro e w3 ⟨a', rfl, n3, hb4⟩
  have h4' := nodes_below h3' hb4
  have hb34 := below_on hb3 hb4
  clear h2' h3' hb3
  go_wp2_with (go_at_call 10; refine (tree_any a1 len1 cap1 ns1 _ h4' hl1).mono ?_; rintro e w4 ⟨a1', rfl, n4, hb5⟩; have n3' := nodes_below n3 hb5; have hb35 := below_on hb34 hb5; clear n3 n4 hb4 hb5 hb34 h4')
  refine (dom_any w4.heap.size len len a' ns typ _ (by simp) (nodes_below n3' ((Below.refl _ _).alloc (Nat.le_refl _) _)) hsum).mono ?_
  rintro e wD ⟨G, nG, fG, LG, rfl, hG, hD, hLn, hmem, hbD⟩
  have HB : Hid (Below w.heap.size w wD) := below_on (hb35.alloc hb35.size _) hbD
  have HG : Hid (MapI wD G nG fG LG.length) := hG
  have HDG : Hid (Dom (KF ns) (idz ns) (okT ns typ) (nmV ns) len fG) := hD
  have HLN : Hid (LG.Nodup ∧ ∀ x, (fG x).isSome ↔ x ∈ LG) := ⟨hLn, hmem⟩
  clear hbD hb35 n3' hG hD hLn hmem
  go_wp2
  go_loopw [12] (fun i wr => ∃ k : Nat, k ≤ len ∧ i = .int .i64 k ∧ Hid (J1 wD wr ns k)) (fun i _ => len - (intOf i).toNat)
  case atStart => exact ⟨0, Nat.zero_le _, rfl, J1_start wD ns⟩
  case round =>
    obtain ⟨k, hk, rfl, HL⟩ := hrel
    by_cases hlt : k < len
    · obtain ⟨b, o, rfl, hc⟩ := h.hcells.resolve_left (by omega)
      obtain ⟨g0, g1, g2, g3, g4, g5, g6, g7⟩ := below_cells (below_on HB.out HL.out.1) (hc k hlt)
      obtain ⟨hbel, sz, hmap⟩ := HL.out
      have hwf := (h.node k hlt).hid
      have hj : (k : Int) < (len : Int) := by omega
      have HI : Hid (idz ns k = (ns.getD k noNode).id) := (rfl : idz ns k = _)
      generalize ns.getD k noNode = nd at *
      clear hc
      go_wp2_with (at_mapUpdate; refine wpList_put rfl _ _ _ 32 rfl 3 emb_int_inj emb_int_key key3 Try.underlying32 hmap (by unfold maxLen; omega) rfl _ _ rfl rfl nd.id (keyOf_int_mk Try.underlying3 hwf) ?_; intro w2 hm2 hg2)
      rw [← HI.out] at hm2
      have H2 : Hid (J1 wD w2 ns (k + 1)) := J1_step hbel hm2 hg2
      go_roundw
      case rel => exact ⟨k + 1, by omega, by go_num, H2⟩
      case measure => simp [intOf]; omega
    · have HL1 : Hid (J1 wD wr ns len) := (show k = len by omega) ▸ HL
      clear HL
      obtain ⟨w1, hw1⟩ : ∃ x, x = wr := ⟨_, rfl⟩
      subst hw1
      have H20 : Hid (Env w (w1.alloc (.map #[] 0)) ns len G wD.heap.size w1.heap.size nG fG LG.length (fun _ => none) [] (.slice none 0 0)) := Env_start HB.out HG.out HL1.out
      clear HL1
      go_wp2
      go_loopw [15, 14] (fun i kv wr => ∃ (k2 : Nat) (f : Int → Option Value) (ks : List Int) (ao : Option Addr) (n cap2 : Nat), k2 ≤ len ∧ i = .int .i64 k2 ∧ kv = .slice ao n cap2 ∧ Hid (ks.length = n) ∧ Hid (ks.length ≤ k2 * 1048577) ∧ Hid (Dom (KF ns) (idz ns) (okT ns typ) (nmV ns) k2 f) ∧ Hid (Env w wr ns len G wD.heap.size w1.heap.size nG fG LG.length f ks (.slice ao n cap2))) (fun i _ _ => len - (intOf i).toNat)
      case atStart => exact ⟨0, _, [], _, _, _, Nat.zero_le _, rfl, rfl, rfl, Nat.zero_le _, dom_start, H20⟩
      case round =>
        clear H20
        obtain ⟨k2, f, ks, ao, n, cap2, hk2, rfl, rfl, hn, HK, HD, HE⟩ := hrel
        by_cases hlt2 : k2 < len
        · obtain ⟨b, o, rfl, hc⟩ := h.hcells.resolve_left (by omega)
          obtain ⟨g0, g1, g2, g3, g4, g5, g6, g7⟩ := below_cells HE.out.bel (hc k2 hlt2)
          have hwf := (h.node k2 hlt2).hid
          have hj : (k2 : Int) < (len : Int) := by omega
          have HC : Hid (∀ i, i < len → ∀ f, f < 8 → w.cell? ⟨b, o + i * 8 + f, none⟩ = some ((ns.getD i noNode).cell f)) := hc
          clear hc
          have HO : Hid (okT ns typ k2 = ((ns.getD k2 noNode).typ.toList == typ.toList)) := (rfl : okT ns typ k2 = _)
          have HI : Hid (idz ns k2 = (ns.getD k2 noNode).id) := (rfl : idz ns k2 = _)
          have HN : Hid (nmV ns k2 = .string (ns.getD k2 noNode).name) := (rfl : nmV ns k2 = _)
          generalize ns.getD k2 noNode = nd at *
          obtain ⟨w2, hw2⟩ : ∃ x, x = wr := ⟨_, rfl⟩
          subst hw2
          cases hq : (nd.typ.toList == typ.toList)
          · have HOk : Hid (okT ns typ k2 = false) := HO.out.trans hq
            go_wp2
            go_roundw
            case rel => exact ⟨k2 + 1, f, ks, _, _, _, by omega, by go_num, rfl, hn, Nat.le_trans HK.out (Nat.mul_le_mul_right _ (Nat.le_succ _)), dom_skip HD.out HOk.out, HE⟩
            case measure => simp [intOf]; omega
          · have HOk : Hid (okT ns typ k2 = true) := HO.out.trans hq
            go_wp2_with (at_mapUpdate; refine wpList_put rfl _ _ _ 37 rfl 4 emb_int_inj emb_int_key key3 Try.underlying37 (mapG_made _ _ _ _) (by unfold maxLen; omega) rfl _ _ rfl rfl nd.id (keyOf_int_mk Try.underlying3 hwf) ?_; intro w3 hm3 hg3)
            have H30 : Hid (K3 w (w3.alloc (.cells #[.int .i64 nd.id] 3)) ns len G wD.heap.size w1.heap.size nG fG LG.length k2 nd.id (.string nd.name) f ks (.slice ao n cap2) w2.heap.size [nd.id] 0 w3.heap.size 1) := K3_start ⟨w, h⟩ HE.out nd.id (.string nd.name) hwf HK.out hm3 hg3
            clear g0 g1 g2 g3 g4 g5 g6 g7 hm3 hg3 HE
            go_loopw [20, 19, 14] (fun hv qv kv wr => ∃ (hh : Nat) (q ks : List Int) (m g capq : Nat) (ao : Option Addr) (n cap2 : Nat), hv = .int .i64 hh ∧ qv = .slice (some ⟨g, 0, none⟩) m capq ∧ kv = .slice ao n cap2 ∧ Hid (q.length = m) ∧ Hid (ks.length = n) ∧ Hid (K3 w wr ns len G wD.heap.size w1.heap.size nG fG LG.length k2 nd.id (.string nd.name) f ks (.slice ao n cap2) w2.heap.size q hh g capq)) (fun hv _ _ _ => 1048577 - (intOf hv).toNat)
            case atStart => exact ⟨0, [nd.id], ks, _, _, _, _, _, _, rfl, rfl, rfl, rfl, hn, H30⟩
            case round =>
              clear H30
              obtain ⟨hh, q, ks, m, g, capq, ao, n, cap2, rfl, rfl, rfl, hm, hn, H3⟩ := hrel
              have hqb : m + potN ns (inq (q.take hh)) ≤ 1 + sumN ns := by have := H3.out.qb; rw [hm.out] at this; exact this
              have hqm : m ≤ 1048577 := by unfold sumN at hqb; omega
              have hhm : hh ≤ m := by have := H3.out.hh; rw [hm.out] at this; exact this
              by_cases hlt3 : hh < m
              · obtain ⟨x, hx⟩ : ∃ x, q[hh]? = some x := ⟨_, List.getElem?_eq_getElem (by rw [hm.out]; exact hlt3)⟩
                have HX : Hid (q[hh]? = some x) := hx
                have hcx := H3.out.cell hx
                have hwx := H3.out.qwf x (List.mem_of_getElem? hx)
                have hj3 : (hh : Int) < (m : Int) := by omega
                clear hx
                obtain ⟨wq, hwq⟩ : ∃ x, x = wr := ⟨_, rfl⟩
                subst hwq
                by_cases hx0 : 0 ≤ x
                · obtain ⟨sza, ha⟩ := H3.out.env.asg
                  cases hf : f x with
                  | none =>
                    have hnone : asgF f q hh (.string nd.name) x = none := by unfold asgF; rw [if_neg (fun c => H3.out.fresh HX.out c.2.2), hf]
                    have HF : Hid (f x = none) := hf
                    clear hf
                    have HOW : Hid (wq.ownsRow (w1.heap.size + 1) 3 1 (.slice ao n cap2) n (ks.map (Value.int .i64))) := by have := H3.out.env.own; rw [hn.out] at this; exact this
                    have HOL : Hid (∀ k, (Value.slice ao n cap2).ownBlock = some k → w1.heap.size + 1 ≤ k) := fun k e => (H3.out.env.key_lt k e).1
                    have hkb : n ≤ k2 * 1048577 + hh := by have := H3.out.kbd; rw [hn.out] at this; exact this
                    have hnm : n < maxLen := by unfold maxLen; omega
                    rw [hn.out] at ha
                    have HB4 : Hid (w1.heap.size < wq.heap.size) := H3.out.env.o4
                    go_wp2_with (first
                      | (at_lookup; refine wpList_look_ok rfl _ _ 30 rfl 9 key3 Try.underlying30 (Try.zeroValue9 _) ha rfl _ rfl x (keyOf_int_mk Try.underlying3 hwx) ?_; rw [hnone])
                      | (at_mapUpdate; go_must (refine wpList_put rfl _ _ _ 30 rfl 9 emb_int_inj emb_int_key key3 Try.underlying30 ha hnm rfl _ _ rfl rfl x (keyOf_int_mk Try.underlying3 hwx) ?_); intro w4 hm4 hg4)
                      | (at_builtin; go_must (refine wpList_append_one _ rfl (.tmp 131) (.tmp 133) 33 rfl (w1.heap.size + 1) 3 i0 (.int .i64 0) 8 Try.underlying33 hi hz0 hz1 hz2 rfl _ n _ rfl ((HOW.out.kept hg4 (own_ne HOL.out)).alloc _) ⟨w4.heap.size, 0, none⟩ (.int .i64 x) 1 rfl (one_cell _ _ _) rfl (by unfold maxLen; omega) (by omega) (by have := hg4.size; have := HB4.out; simp; omega) ?_); intro g5 cap5 w5 hown5 hg5 hl5))
                    have H5 : Hid (K3 w w5 ns len G wD.heap.size w1.heap.size nG fG LG.length k2 nd.id (.string nd.name) f (ks ++ [x]) (.slice (some ⟨g5, 0, none⟩) (n + 1) cap5) w2.heap.size q (hh + 1) g capq) := by
                      rw [← hn.out] at hm4 hown5
                      have e := H3.out.osd HX.out HF.out hx0 hm4 hg4 hown5 hg5 hl5
                      rw [hn.out] at e
                      exact e
                    clear hm4 hg4 hown5 hg5 hl5
                    go_roundw
                    case rel => exact ⟨hh + 1, q, ks ++ [x], _, _, _, _, _, _, by go_num, rfl, rfl, hm, (by rw [List.length_append, hn.out]; rfl : (ks ++ [x]).length = n + 1), H5⟩
                    case measure => simp [intOf]; omega
                  | some v =>
                    have hsome : asgF f q hh (.string nd.name) x = some v := by unfold asgF; rw [if_neg (fun c => H3.out.fresh HX.out c.2.2), hf]
                    have HF : Hid (f x ≠ none) := (by rw [hf]; simp : f x ≠ none)
                    clear hf
                    go_wp2_with (at_lookup; refine wpList_look_ok rfl _ _ 30 rfl 9 key3 Try.underlying30 (Try.zeroValue9 _) ha rfl _ rfl x (keyOf_int_mk Try.underlying3 hwx) ?_; rw [hsome])
                    go_roundw
                    case rel => exact ⟨hh + 1, q, ks, _, _, _, _, _, _, by go_num, rfl, rfl, hm, hn, H3.out.skip HX.out (.inl HF.out) (fun hneg => by omega)⟩
                    case measure => simp [intOf]; omega
                · obtain ⟨szl, hla⟩ := H3.out.env.last
                  cases hlj : lastTo (idz ns) len x with
                  | none =>
                    have hnone : fL ns len x = none := by unfold fL; rw [hlj]; rfl
                    have HKF : Hid (KF ns x = []) := KF_none h.hlen hlj
                    clear hlj
                    go_wp2_with (at_lookup; refine wpList_look_ok rfl _ _ 32 rfl 3 key3 Try.underlying32 (Try.zeroValue3 _) hla rfl _ rfl x (keyOf_int_mk Try.underlying3 hwx) ?_; rw [hnone])
                    go_roundw
                    case rel => exact ⟨hh + 1, q, ks, _, _, _, _, _, _, by go_num, rfl, rfl, hm, hn, H3.out.skip HX.out (.inr (by omega)) (fun _ => HKF.out)⟩
                    case measure => simp [intOf]; omega
                  | some j =>
                    have hsome : fL ns len x = some (.int .i64 (j : Int)) := by unfold fL; rw [hlj]; rfl
                    obtain ⟨ka, kl, kc, hk4, hkl, hkm, hkc⟩ := kid_at h HS.out HC.out hlj
                    have hjl : (j : Int) < (len : Int) := by have := (lastTo_some _ _ _ _ hlj).1; omega
                    have HKC : Hid (∀ c z, (KF ns x)[c]? = some z → (wfI z ∧ ∃ kb ko, ka = some ⟨kb, ko, none⟩ ∧ kb < w.heap.size ∧ ∀ wr, Below w.heap.size w wr → wr.cell? ⟨kb, ko + c, none⟩ = some (.int .i64 z))) := hkc
                    have hk4q := hk4 wq H3.out.env.bel
                    have HKL : Hid ((KF ns x).length = kl) := hkl
                    have hroom : m + kl ≤ 1048577 := by
                      have := H3.out.pot HX.out
                      rw [hkl] at this
                      unfold sumN at hqb
                      omega
                    clear hkc hk4 hkl hlj
                    have H40 : Hid (K4 w wq ns len G wD.heap.size w1.heap.size nG fG LG.length (asgF f q hh (.string nd.name)) ks (.slice ao n cap2) w2.heap.size q x 0 [] g capq) := K4_start H3.out x
                    go_wp2_with (at_lookup; refine wpList_look_ok rfl _ _ 32 rfl 3 key3 Try.underlying32 (Try.zeroValue3 _) hla rfl _ rfl x (keyOf_int_mk Try.underlying3 hwx) ?_; rw [hsome])
                    have HM0 : Hid ((q ++ ([] : List Int)).length = m) := (congrArg List.length (List.append_nil q)).trans hm.out
                    go_loopw [27, 19] (fun cv qv wr => ∃ (c : Nat) (new : List Int) (m4 g4 cap4 : Nat), c ≤ kl ∧ cv = .int .i64 c ∧ qv = .slice (some ⟨g4, 0, none⟩) m4 cap4 ∧ Hid ((q ++ new).length = m4) ∧ m4 ≤ m + c ∧ Hid (K4 w wr ns len G wD.heap.size w1.heap.size nG fG LG.length (asgF f q hh (.string nd.name)) ks (.slice ao n cap2) w2.heap.size q x c new g4 cap4)) (fun cv _ _ => kl - (intOf cv).toNat)
                    case atStart => exact ⟨0, [], _, _, _, Nat.zero_le _, rfl, rfl, HM0, by omega, H40⟩
                    case round =>
                      clear H40
                      obtain ⟨c, new, m4, g4, cap4, hck, rfl, rfl, hm4, hm4b, H4⟩ := hrel
                      by_cases hlt4 : c < kl
                      · obtain ⟨z, hz⟩ : ∃ z, (KF ns x)[c]? = some z := ⟨_, List.getElem?_eq_getElem (by rw [HKL.out]; exact hlt4)⟩
                        have HZ : Hid ((KF ns x)[c]? = some z) := hz
                        obtain ⟨hwz, kb, ko, rfl, hkb, hcellz⟩ := HKC.out c z hz
                        have hcz := hcellz wr H4.out.env.bel
                        have hj4 : (c : Int) < (kl : Int) := by omega
                        clear hz hcellz
                        obtain ⟨szv, hvs⟩ := H4.out.vis
                        rw [hm4.out] at hvs
                        have hnm : m4 < maxLen := by unfold maxLen; omega
                        cases hS : inq (q ++ new) z
                        · have HOW : Hid (wr.ownsRow (w2.heap.size + 1) 3 1 (.slice (some ⟨g4, 0, none⟩) m4 cap4) m4 ((q ++ new).map (Value.int .i64))) := by have := H4.out.que; rw [hm4.out] at this; exact this
                          have HGB : Hid (w2.heap.size + 1 ≤ g4 ∧ g4 < wr.heap.size) := HOW.out.lt g4 rfl
                          have HWB : Hid (w.heap.size ≤ w2.heap.size) := by
                            have h1 := H4.out.env.o1
                            have h3 := H4.out.env.o3
                            have h4 := H4.out.mv1
                            exact (by omega : w.heap.size ≤ w2.heap.size)
                          go_wp2_with (first
                            | (at_lookup; refine wpList_look rfl _ _ 37 rfl 4 key3 Try.underlying37 (Try.zeroValue4 _) hvs rfl _ rfl z (keyOf_int_mk Try.underlying3 hwz) ?_; rw [setF_look, hS])
                            | (at_mapUpdate; go_must (refine wpList_put rfl _ _ _ 37 rfl 4 emb_int_inj emb_int_key key3 Try.underlying37 hvs hnm rfl _ _ rfl rfl z (keyOf_int_mk Try.underlying3 hwz) ?_); intro w5 hm5 hg5; have hcz5 := hg5.cell hcz (by have := HWB.out; simp; omega))
                            | (at_builtin; go_must (refine wpList_append_out1 _ rfl (.tmp 166) (.tmp 171) 33 rfl (w2.heap.size + 1) 3 i0 (.int .i64 0) 8 Try.underlying33 hi hz0 hz1 hz2 rfl g4 m4 cap4 _ rfl ((HOW.out.kept hg5 (.inr (by have := HGB.out; simp [Value.ownBlock]; omega))).alloc _) ⟨w5.heap.size, 0, none⟩ 1 1 [.int .i64 z] rfl rfl (one_cell _ _ _) (fun u hu => by simp at hu; subst hu; rfl) (by unfold maxLen; omega) (by omega) (by have := hg5.size; have := HGB.out; simp; omega) ?_); intro g6 cap6 w6 hown6 hg6 hl6))
                          have H5 : Hid (K4 w w6 ns len G wD.heap.size w1.heap.size nG fG LG.length (asgF f q hh (.string nd.name)) ks (.slice ao n cap2) w2.heap.size q x (c + 1) (new ++ [z]) g6 cap6) := by
                            rw [← hm4.out] at hm5 hown6
                            exact H4.out.push HZ.out hS hwz hm5 hg5 hown6 hg6 hl6
                          have HM6 : Hid ((q ++ (new ++ [z])).length = m4 + 1) := by
                            have e := hm4.out
                            rw [List.length_append] at e
                            exact (by rw [List.length_append, List.length_append, List.length_singleton]; omega : (q ++ (new ++ [z])).length = m4 + 1)
                          clear hm5 hg5 hown6 hg6 hl6 hcz5
                          go_roundw
                          case rel => exact ⟨c + 1, new ++ [z], _, _, _, by omega, by go_num, rfl, HM6, by omega, H5⟩
                          case measure => simp [intOf]; omega
                        · go_wp2_with (at_lookup; refine wpList_look rfl _ _ 37 rfl 4 key3 Try.underlying37 (Try.zeroValue4 _) hvs rfl _ rfl z (keyOf_int_mk Try.underlying3 hwz) ?_; rw [setF_look, hS])
                          go_roundw
                          case rel => exact ⟨c + 1, new, _, _, _, by omega, by go_num, rfl, hm4, by omega, H4.out.skip HZ.out hS⟩
                          case measure => simp [intOf]; omega
                      · have H5 : Hid (K3 w wr ns len G wD.heap.size w1.heap.size nG fG LG.length k2 nd.id (.string nd.name) f ks (.slice ao n cap2) w2.heap.size (q ++ new) (hh + 1) g4 cap4) := H4.out.over H3.out HX.out (by omega) (by rw [HKL.out]; omega)
                        go_wp2
                        go_roundw
                        case rel => exact ⟨hh + 1, q ++ new, ks, _, _, _, _, _, _, by go_num, rfl, rfl, hm4, hn, H5⟩
                        case measure => simp [intOf]; omega
              · have hov := H3.out.over (typ := typ) (by rw [hm.out]; omega) HD.out HOk.out HI.out HN.out (by unfold sumN; omega)
                have H5 : Hid (Dom (KF ns) (idz ns) (okT ns typ) (nmV ns) (k2 + 1) (asgF f q hh (.string nd.name)) ∧ ks.length ≤ (k2 + 1) * 1048577) := hov
                clear hov
                go_wp2
                go_roundw
                case rel => exact ⟨k2 + 1, _, ks, _, _, _, by omega, by go_num, rfl, hn, H5.out.2, H5.out.1, H3.out.env⟩
                case measure => simp [intOf]; omega
        · have hkk : k2 = len := by omega
          subst hkk
          have hfe : fG = f := dom_unique HDG.out HD.out
          have hle : LG.length = n := (same_length HLN.out.1 HE.out.nd (fun x => by rw [← HLN.out.2 x, hfe]; exact HE.out.mem x)).trans hn.out
          have hgot : MapI wr G nG f n := by have := HE.out.got; rw [hfe, hle] at this; exact this
          obtain ⟨sza, hasg⟩ := HE.out.asg
          have HST : Hid (∀ x ∈ ks, ∃ s : ByteArray, f x = some (.string s)) := fun x hx => by
            have hs := (HE.out.mem x).2 hx
            obtain ⟨v, hv⟩ := Option.isSome_iff_exists.1 hs
            obtain ⟨_, j, _, _, _, _, e⟩ := (HD.out x v).1 hv
            exact ⟨_, hv.trans (congrArg some e)⟩
          have HOW : Hid (wr.ownsRow (w1.heap.size + 1) 3 1 (.slice ao n cap2) n (ks.map (Value.int .i64))) := by have := HE.out.own; rw [hn.out] at this; exact this
          have hnb : n ≤ 1099512676352 := by have := HK.out; rw [hn.out] at this; omega
          clear hfe hle
          go_wp2_with (at_len; refine wpList_len rfl _ 30 rfl 9 Try.underlying30 hgot rfl ?_)
          go_loop [28] (fun i => ∃ k : Nat, k ≤ n ∧ i = .int .i64 k) (fun i => n - (intOf i).toNat)
          case atStart => exact ⟨0, Nat.zero_le _, rfl⟩
          case round =>
            obtain ⟨k5, hk5, rfl⟩ := hrel
            by_cases hlt5 : k5 < n
            · obtain ⟨g5, c5, e5, _⟩ := owns_shape HOW.out (fun e => by cases e; omega)
              cases e5
              obtain ⟨x, hx⟩ : ∃ x, ks[k5]? = some x := ⟨_, List.getElem?_eq_getElem (by rw [hn.out]; exact hlt5)⟩
              have hcx : wr.cell? ⟨g5, k5, none⟩ = some (.int .i64 x) := by
                rw [HOW.out.cellAt k5 (by omega), List.getElem?_map, hx]
                rfl
              have hwx := HE.out.wf x (List.mem_of_getElem? hx)
              obtain ⟨s, hs⟩ := HST.out x (List.mem_of_getElem? hx)
              have hlk : (Instr.lookup 30 (.map (some w1.heap.size)) (.int .i64 x) false).run Try.prog wr = .ok (.string s) wr := by
                have := MapG.look hasg key3 Try.underlying30 (Try.zeroValue9 _) (keyOf_int_mk Try.underlying3 hwx)
                rw [hs] at this
                exact this
              have hj5 : (k5 : Int) < (n : Int) := by omega
              clear hx
              go_wp2_with (at_lookup; refine wpList_look_ok rfl _ _ 30 rfl 9 key3 Try.underlying30 (Try.zeroValue9 _) hgot rfl _ rfl x (keyOf_int_mk Try.underlying3 hwx) ?_; rw [hs])
              go_round
              case rel => exact ⟨k5 + 1, by omega, by go_num⟩
              case measure => simp [intOf]; omega
            · have HBB : Hid (Below w.heap.size w wr) := HE.out.bel
              go_wp2
              go_ret
              exact ⟨rfl, HBB.out⟩


end Go.Proofs.Qxb6602669a.Law3
