/-
  THE WALK of 'FnNamesSortedSetOfEveryServer' (function 7).
-/
import Derived.Test.Qxb6602669aLaw7P
import Derived.Test.Qxb6602669aBytes16
import Derived.Test.Qxb6602669aBytes17
import Derived.Test.Qxb6602669aFSMap
namespace Go.Proofs.Qxb6602669a.Law7
open Go.RowKit Go.Sort
open Go.Maps (Keyed)
open Go.Proofs.Qxb6602669a.Fs Go.Proofs.Qxb6602669a.MapK Go.Proofs.Qxb6602669a.FSP Go.Proofs.Qxb6602669a.Find Go.Proofs.Qxb6602669a.OwnL Go.Proofs.Qxb6602669a.Names
set_option linter.unusedVariables false
set_option linter.unusedSimpArgs false

/-- What 'Names' has handed back, and where it lies. -/
def GotAt (wN : World) (Lg : List (List UInt8)) (ao : Option Addr) (m : Nat) : Prop :=
  (Lg = [] ∧ ao = none ∧ m = 0) ∨ (Lg ≠ [] ∧ m = (outL Lg).length ∧ ∃ g, ao = some ⟨g, 0, none⟩ ∧ g < wN.heap.size ∧ ∀ i x, (outL Lg)[i]? = some x → wN.cell? ⟨g, i, none⟩ = some (encStr x))

theorem post19_shape {w w' : World} {S : List UInt8 → Prop} {bound : Nat} {e : Ending} (h : Post19 w S bound e w') : ∃ ao m cap Lg, e = .returned (.slice ao m cap) ∧ Below w.heap.size w w' ∧ (∀ x, x ∈ Lg ↔ S x) ∧ Lg.length ≤ bound ∧ GotAt w' Lg ao m := by
  obtain ⟨hb, L, h1, h2, h3⟩ := h
  rcases h3 with ⟨h4, rfl⟩ | ⟨h4, g, cap, rfl, _, h6, h7⟩
  · exact ⟨none, 0, 0, L, rfl, hb, h1, h2, .inl ⟨h4, rfl, rfl⟩⟩
  · exact ⟨some ⟨g, 0, none⟩, (outL L).length, cap, L, rfl, hb, h1, h2, .inr ⟨h4, rfl, g, rfl, h6, h7⟩⟩

set_option maxHeartbeats 4000000 in
set_option maxRecDepth 100000 in
theorem walk (a : Option Addr) (len cap : Nat) (ss : List SrvV) (a1 : Option Addr) (len1 cap1 : Nat) (fs : List FsV) (w : World) (h : SrvsAt w a len cap ss) (h1 : FssAt w a1 len1 cap1 fs) :
    Calls Try.prog 7 #[.slice a len cap, .slice a1 len1 cap1] w fun e w' => e = .returned (.bool true) ∧ Below w.heap.size w w' := by
  obtain ⟨i0, hi, hz0, hz1, hz2⟩ := info_parts info9
  obtain ⟨j0, ji, jz0, jz1, jz2⟩ := info_parts info4
  have hmm := @run_makeMap Try.prog
  go_enter Try.func7, Try.ntmps7
  go_wp2_with (go_at_call 16; go_must (refine (Bytes16.bytes_any a len cap ss a1 len1 cap1 fs _ h h1).mono ?_); rintro e w' ⟨bb, rfl, hb8, rfl⟩)
  · go_ret
    exact ⟨rfl, Below.refl _ _⟩
  have hbb : (!bb) = false := by assumption
  have hbt : bb = true := by cases bb; cases hbb; rfl
  have hbig := hb8 hbt
  subst hbt
  clear hb8
  refine (Bytes17.bytes_any a len cap ss a1 len1 cap1 fs _ h h1 (by omega) (by omega)).mono ?_
  rintro e w1 ⟨t1, rfl, hb1⟩
  have h' := h.below hb1
  have h1' := h1.below hb1
  go_wp2_with (first
    | (go_at_call 18; go_must (refine (FSMap.fsmap_any a len cap ss a1 len1 cap1 fs _ h' h1' hbig).mono ?_); rintro e w2 ⟨rfl, hb2, sa, fa, mb, p1, p2, p3, p4⟩)
    | (go_at_call 19; go_must (refine (names_any w1.heap.size len len1 sa fa ss fs mb _ p1 p2 p3 p4 h1.hlen hbig).mono ?_); intro e wN hp; obtain ⟨ga, gm, gc, Lg, rfl, hb3, hLg, hLl, hgot⟩ := post19_shape hp; clear hp))
  · go_ret
    exact ⟨rfl, hb1⟩
  have HB : Hid (Below w.heap.size w wN) := below_on (below_on hb1 hb2) hb3
  have HLg : Hid (∀ x, x ∈ Lg ↔ NmS ss len x ∨ NmF fs len1 x) := hLg
  have HGA : Hid (GotAt wN Lg ga gm) := hgot
  have HLL : Hid (Lg.length ≤ 1048576) := hLl
  clear hb1 hb2 hb3 h' h1' p1 p2 p3 p4 hLg hgot hLl
  go_loopw [7, 6] (fun i kv wr => ∃ (k : Nat) (L : List (List UInt8)) (ao : Option Addr) (n cap : Nat), k ≤ len ∧ i = .int .i64 k ∧ kv = .slice ao n cap ∧ Hid (L.length = n) ∧ n ≤ k ∧ Hid (∀ x, x ∈ L ↔ NmS ss k x) ∧ Hid (N1 wN wr L (.slice ao n cap))) (fun i _ _ => len - (intOf i).toNat)
  case atStart => exact ⟨0, [], _, _, _, Nat.zero_le _, rfl, rfl, rfl, Nat.le_refl _, fun x => ⟨fun h => (by cases h), fun ⟨i, hi, _⟩ => (by omega)⟩, Below.refl _ _, World.ownsRow_nil _ _ _ _⟩
  case round =>
    obtain ⟨k, L, ao, n, cap2, hk, rfl, rfl, hn, hnk, HL, HN⟩ := hrel
    by_cases hlt : k < len
    · obtain ⟨b, o, rfl, hc⟩ := h.row.at hlt
      obtain ⟨g0, g1, g2⟩ := srv_cells (below_on HB.out HN.out.1) (hc k hlt)
      have HNS : Hid (∀ x, NmS ss (k + 1) x ↔ NmS ss k x ∨ key (ss.getD k noSrv).name = x) := NmS_succ ss k
      generalize ss.getD k noSrv = s at *
      have hj : (k : Int) < (len : Int) := by omega
      have hN2 := HN.out.2
      rw [hn.out] at hN2
      have HBz : Hid (wN.heap.size ≤ wr.heap.size) := HN.out.1.size
      clear hc
      go_wp2_with (at_builtin; go_must (refine wpList_append_one _ rfl (.tmp 35) (.tmp 41) 48 rfl wN.heap.size 9 i0 (.string ⟨#[]⟩) 16 Try.underlying48 hi hz0 hz1 hz2 rfl _ n _ rfl (hN2.alloc _) _ (.string s.name) 1 rfl (Names.one_cell _ _ (by simp) _ _) rfl (by unfold maxLen; omega) (by omega) (by have := HBz.out; simp; omega) ?_); intro g5 cap5 w5 hown5 hg5 hl5)
      have H5 : Hid (N1 wN w5 (L ++ [key s.name]) (.slice (some ⟨g5, 0, none⟩) (n + 1) cap5)) := N1_push1 HN.out hn.out hown5 hg5
      have H6 : Hid (∀ x, x ∈ L ++ [key s.name] ↔ NmS ss (k + 1) x) := NmS_push HL.out HNS.out
      have H7 : Hid ((L ++ [key s.name]).length = n + 1) := (by rw [List.length_append, hn.out]; rfl : (L ++ [key s.name]).length = n + 1)
      clear hown5 hg5 hl5
      go_roundw
      case rel => exact ⟨k + 1, _, _, _, _, by omega, by go_num, rfl, H7, by omega, H6, H5⟩
      case measure => simp [intOf]; omega
    · have HL0 : Hid (∀ x, x ∈ L ↔ NmS ss len x ∨ NmF fs 0 x) := fun x => by
        rw [HL.out x, show k = len by omega]
        exact ⟨.inl, fun h => h.elim id (fun ⟨i, hi, _⟩ => by omega)⟩
      have hnl : n ≤ len := by omega
      obtain ⟨w3, hw3⟩ : ∃ x, x = wr := ⟨_, rfl⟩
      subst hw3
      go_wp2_with fail
      go_loopg [8, 6] len1 (fun gk i kv wr => ∃ (k : Nat) (L : List (List UInt8)) (ao : Option Addr) (n cap : Nat), k ≤ len1 ∧ i = .int .i64 k ∧ len1 - k ≤ gk ∧ kv = .slice ao n cap ∧ Hid (L.length = n) ∧ Hid (n ≤ len + sumF fs k) ∧ Hid (∀ x, x ∈ L ↔ NmS ss len x ∨ NmF fs k x) ∧ Hid (N1 wN wr L (.slice ao n cap)))
      case atStart => exact ⟨0, L, _, _, _, Nat.zero_le _, rfl, by omega, rfl, hn, Nat.le_trans hnl (Nat.le_add_right _ _), HL0, HN⟩
      case round =>
        clear hn HL HN HL0 hnk hnl hk hlt
        obtain ⟨k2, L, ao, n, cap2, hk, rfl, hgk, rfl, hn, hnb, HL, HN⟩ := hrel
        by_cases hlt : k2 < len1
        · obtain ⟨b, o, rfl, hc⟩ := h1.row.at hlt
          have ok := h1.ok hlt
          obtain ⟨g0, g1, g2, g3⟩ := fs_cells (below_on HB.out HN.out.1) (hc k2 hlt)
          have HSF : Hid (sumF fs (k2 + 1) = sumF fs k2 + (fs.getD k2 noFs).il) := sumF_succ fs k2 (by rw [h1.hlen]; exact hlt)
          have HSM : Hid (sumF fs (k2 + 1) ≤ sumF fs len1) := sumF_mono fs (show k2 + 1 ≤ len1 by omega)
          have HNF : Hid (∀ x, NmF fs (k2 + 1) x ↔ NmF fs k2 x ∨ InM (fE (fs.getD k2 noFs).info) x) := NmF_succ fs k2
          generalize fs.getD k2 noFs = x at *
          have hj : (k2 : Int) < (len1 : Int) := by omega
          have HEN := ok.hinfo
          have HLI : Hid (x.info.length = x.il) := HEN.hlen
          have hilb : x.il ≤ 1048576 := by have := HSF.out; have := HSM.out; omega
          obtain ⟨w4, hw4⟩ : ∃ x, x = wr := ⟨_, rfl⟩
          subst hw4
          clear hc ok
          generalize x.ia = ia at *
          have HN4 : Hid (N1 wN (w4.alloc (.map #[] 0)) L (.slice ao n cap2)) := ⟨HN.out.1.alloc HN.out.1.size _, HN.out.2.alloc _⟩
          have HM4 : Hid (∃ sz, MapS (w4.alloc (.map #[] 0)) w4.heap.size 0 (Live x.info x.il) sz) := ⟨0, by rw [Live_end x.info (Nat.le_of_eq HLI.out)]; exact mapG_made _ _ _ _⟩
          have HT4 : Hid (∀ y, y ∈ L ↔ y ∈ L ∨ Tail x.info x.il y) := fun y => ⟨.inl, fun h => h.elim id (fun h => absurd h (Tail_end x.info (Nat.le_of_eq HLI.out) y))⟩
          have HBW : Hid (wN.heap.size ≤ w4.heap.size) := HN.out.1.size
          go_wp2_with fail
          go_loopg [11, 6] x.il (fun gk jv kv wr => ∃ (t : Nat) (L3 : List (List UInt8)) (ao : Option Addr) (n3 cap : Nat), t ≤ x.il ∧ jv = .int .i64 ((t : Int) - 1) ∧ t ≤ gk ∧ kv = .slice ao n3 cap ∧ Hid (L3.length = n3) ∧ Hid (n3 + t ≤ len + sumF fs k2 + x.il) ∧ Hid (∀ y, y ∈ L3 ↔ y ∈ L ∨ Tail x.info t y) ∧ Hid (∃ sz, MapS wr w4.heap.size (x.il - t) (Live x.info t) sz) ∧ Hid (N1 wN wr L3 (.slice ao n3 cap)))
          case atStart => exact ⟨x.il, L, _, _, _, Nat.le_refl _, rfl, Nat.le_refl _, rfl, hn, by have := hnb.out; exact (by omega : n + x.il ≤ len + sumF fs k2 + x.il), HT4, by rw [Nat.sub_self]; exact HM4, HN4⟩
          case round =>
            clear HN4 HM4 HT4 g0 g1 g2 g3
            obtain ⟨t, L3, ao3, n3, cap3, htl, rfl, htg, rfl, hn3, hnc, HL3, HM3, HN3⟩ := hrel
            cases t with
            | zero =>
              have HL4 : Hid (∀ y, y ∈ L3 ↔ NmS ss len y ∨ NmF fs (k2 + 1) y) := fun y => by
                rw [HL3.out y, Tail_zero, HL.out y, HNF.out y, or_assoc]
              have HNB : Hid (n3 ≤ len + sumF fs (k2 + 1)) := by have := hnc.out; have := HSF.out; exact (by omega : n3 ≤ len + sumF fs (k2 + 1))
              go_wp2_with fail
              go_roundg (len1 - (k2 + 1))
              case measure => omega
              case rel => exact ⟨k2 + 1, L3, _, _, _, by omega, by go_num, by omega, rfl, hn3, HNB, HL4, HN3⟩
            | succ t =>
              rw [show ((t + 1 : Nat) : Int) - 1 = (t : Int) by omega]
              obtain ⟨b3, o3, e3, hc3⟩ := HEN.row.at (show t < x.il by omega)
              have ok3 := HEN.ok (show t < x.il by omega)
              have hb3 : b3 < w.heap.size := World.block_lt_of_cell? w _ (hc3 t (by omega) 0 (by omega))
              obtain ⟨q0, q1, q2, q3⟩ := ent_cells (below_on HB.out HN3.out.1) (hc3 t (by omega))
              have HGI : Hid (gidOf x.info t = key (x.info.getD t noEnt).gid) := (rfl : gidOf x.info t = _)
              have HNI : Hid (nmOf x.info t = key (x.info.getD t noEnt).srv.name) := (rfl : nmOf x.info t = _)
              generalize x.info.getD t noEnt = en at *
              have hj3 : (t : Int) < (x.il : Int) := by omega
              obtain ⟨sz3, hms⟩ := HM3.out
              have hkey := Go.WideMaps.keyOf_string_mk (P := Try.prog) Try.underlying9 ok3.hgid
              have HTL : Hid (t < x.info.length) := (by rw [HLI.out]; omega : t < x.info.length)
              subst e3
              clear hc3 ok3
              rcases Live_cases x.info (t + 1) (key en.gid) with hlive | hlive
              · obtain ⟨i0x, hi1, hi2, hi3⟩ := Live_some.1 hlive
                have HL4 : Hid (∀ y, y ∈ L3 ↔ y ∈ L ∨ Tail x.info t y) := fun y => by
                  rw [HL3.out y, Tail_old (show t < i0x by omega) hi2 (by rw [hi3, HGI.out]) y]
                have HM4 : Hid (∃ sz, MapS wr w4.heap.size (x.il - t) (Live x.info t) sz) := ⟨sz3, by
                  rw [← Live_old HTL.out (by rw [HGI.out]; exact hlive)]
                  exact MapG.mono hms (by omega)⟩
                have H8 : Hid (n3 + t ≤ len + sumF fs k2 + x.il) := by have := hnc.out; exact (by omega : n3 + t ≤ len + sumF fs k2 + x.il)
                clear hi1 hi2 hi3
                go_wp2_with (at_lookup; go_must (refine wpList_look rfl _ _ 57 rfl 4 key9 Try.underlying57 (Try.zeroValue4 _) hms rfl _ rfl (key en.gid) hkey ?_; rw [hlive]))
                go_roundg t
                case measure => omega
                case rel => exact ⟨t, L3, _, _, _, by omega, by go_num, Nat.le_refl _, rfl, hn3, H8, HL4, HM4, HN3⟩
              · have hne := row_ne_map HN3.out.2 hms
                have HNEV : Hid (∀ y, Tail x.info t y ↔ Tail x.info (t + 1) y ∨ nmOf x.info t = y) := Tail_new HTL.out (fun i' h4 h5 => by rw [HGI.out]; exact Live_none hlive i' (by omega) h5)
                have hnm : x.il - (t + 1) < maxLen := by unfold maxLen; omega
                have hnb3 : n3 + 1 ≤ 1048577 := by have := hnc.out; have := HSF.out; have := HSM.out; omega
                go_wp2_with (first
                  | (at_lookup; go_must (refine wpList_look rfl _ _ 57 rfl 4 key9 Try.underlying57 (Try.zeroValue4 _) hms rfl _ rfl (key en.gid) hkey ?_; rw [hlive]))
                  | (at_mapUpdate; go_must (refine wpList_put rfl _ _ _ 57 rfl 4 emb_str_inj emb_str_key key9 Try.underlying57 hms hnm rfl _ _ rfl rfl (key en.gid) hkey ?_); go_must (intro w6 hm6 hg6; have hq1 := hg6.cell q1 (by have := HBW.out; have := HB.out.size; simp; omega); have hN6 := N1_iter HN3.out hg6 HBW.out hne; have hN6o := hN6.2; rw [hn3.out] at hN6o))
                  | (at_builtin; go_must (refine wpList_append_one _ rfl (.tmp 75) (.tmp 82) 48 rfl wN.heap.size 9 i0 (.string ⟨#[]⟩) 16 Try.underlying48 hi hz0 hz1 hz2 rfl _ n3 _ rfl (hN6o.alloc _) _ (.string en.srv.name) 1 rfl (Names.one_cell _ _ (by simp) _ _) rfl (by unfold maxLen; omega) (by omega) (by have := hN6.1.size; simp; omega) ?_); intro g7 cap7 w7 hown7 hg7 hl7))
                have H5 : Hid (N1 wN w7 (L3 ++ [key en.srv.name]) (.slice (some ⟨g7, 0, none⟩) (n3 + 1) cap7)) := N1_push1 hN6 hn3.out hown7 hg7
                have H7 : Hid ((L3 ++ [key en.srv.name]).length = n3 + 1) := (by rw [List.length_append, hn3.out]; rfl : (L3 ++ [key en.srv.name]).length = n3 + 1)
                have H8 : Hid (n3 + 1 + t ≤ len + sumF fs k2 + x.il) := by have := hnc.out; exact (by omega : n3 + 1 + t ≤ len + sumF fs k2 + x.il)
                have HL4 : Hid (∀ y, y ∈ L3 ++ [key en.srv.name] ↔ y ∈ L ∨ Tail x.info t y) := fun y => by
                  rw [List.mem_append, List.mem_singleton, HL3.out y, HNEV.out y, HNI.out, or_assoc, eq_comm (a := y)]
                have HM4 : Hid (∃ sz, MapS w7 w4.heap.size (x.il - t) (Live x.info t) sz) := by
                  have hm7 : MapG Try.prog 9 Lit.string w6 w4.heap.size (x.il - (t + 1) + 1) (upd (Live x.info (t + 1)) (key en.gid) (.bool true)) (if (Live x.info (t + 1) (key en.gid)).isSome then sz3 else sz3 + 1) := hm6
                  rw [← HGI.out, Live_new HTL.out, show x.il - (t + 1) + 1 = x.il - t by omega] at hm7
                  exact (⟨_, (MapG.alloc hm7 _).kept hg7 hne⟩ : ∃ sz, MapS w7 w4.heap.size (x.il - t) (Live x.info t) sz)
                clear hm6 hg6 hq1 hN6 hN6o hown7 hg7 hl7
                go_roundg t
                case measure => omega
                case rel => exact ⟨t, _, _, _, _, by omega, by go_num, Nat.le_refl _, rfl, H7, H8, HL4, HM4, H5⟩
        · have hk2 : k2 = len1 := by omega
          subst hk2
          have HSA : Hid (∀ x, x ∈ L ↔ x ∈ Lg) := fun x => by rw [HL.out x, HLg.out x]
          have hnb2 : n ≤ 1048576 := by have := hnb.out; omega
          have HBR : Hid (Below w.heap.size w wr) := below_on HB.out HN.out.1
          have hne0 := fun wx => Lib.run_eql_slice_nil (P := Try.prog) wx 48 9 ga gm gc 0 0 Try.underlying48
          have HNR : Hid (wr.ownsRow wN.heap.size 9 1 (.slice ao n cap2) n (L.map encStr)) := by have := HN.out.2; rw [hn.out] at this; exact this
          have HNB : Hid (Below wN.heap.size wN wr) := HN.out.1
          clear hnb
          rcases HGA.out with ⟨hLe, rfl, rfl⟩ | ⟨hLe, hgm, g, rfl, hgl, hgc⟩
          · have hn0 : n = 0 := by
              rw [← hn.out]
              cases L with
              | nil => rfl
              | cons y ys => have := (HSA.out y).1 (by simp); rw [hLe] at this; cases this
            subst hn0
            have HB8 : Hid (Below w.heap.size w wr) := HBR.out
            go_wp2_with fail
            go_loop [12] (fun i => i = .int .i64 1) (fun _ => 0)
            case atStart => rfl
            case round =>
              subst hrel
              go_wp2_with (at_make; go_must (refine wpList_make_full _ rfl _ _ 60 rfl wr.heap.size 4 j0 _ 1 Try.underlying60 ji jz0 jz1 _ _ _ _ 0 rfl rfl rfl rfl (by rw [jz2]; omega) (by unfold maxLen; omega) (Nat.le_refl _) ?_); intro w8 hown8 hg8)
              have HB9 : Hid (Below w.heap.size w w8) := HB8.out.grown hg8 HB8.out.size (fun k e => by cases e)
              clear hown8 hg8
              go_loop [14] (fun i => i = .int .i64 0) (fun _ => 0)
              case atStart => rfl
              case round =>
                subst hrel
                go_wp2_with fail
                go_loop [16] (fun i => i = .int .i64 0) (fun _ => 0)
                case atStart => rfl
                case round =>
                  subst hrel
                  go_wp2_with fail
                  go_ret
                  exact ⟨rfl, HB9.out⟩
          · have HGM : Hid ((outL Lg).length = gm) := hgm.symm
            have hgm2 : gm ≤ 1048576 := by have h2 := outL_length Lg; have h3 := HLL.out; omega
            have HGC : Hid (∀ i x, (outL Lg)[i]? = some x → wN.cell? ⟨g, i, none⟩ = some (encStr x)) := hgc
            have HRI : Hid (Rising (outL Lg)) := (outL_spec Lg).1
            have HMO : Hid (∀ x, x ∈ outL Lg ↔ x ∈ L) := fun x => by rw [(outL_spec Lg).2 x, HSA.out x]
            have hb0 : ((n : Int) == 0) = false := by
              rw [beq_eq_false_iff_ne]
              intro e
              have hL0 : L = [] := List.eq_nil_of_length_eq_zero (by rw [hn.out]; omega)
              cases hLg : Lg with
              | nil => exact hLe hLg
              | cons y ys => have := (HSA.out y).2 (by rw [hLg]; simp); rw [hL0] at this; cases this
            clear hgm hgc hLe
            obtain ⟨wA, hwA⟩ : ∃ x, x = wr := ⟨_, rfl⟩
            subst hwA
            go_wp2_with fail
            go_loopw [12] (fun i wr => ∃ k : Nat, k ≤ gm ∧ i = .int .i64 ((k : Int) + 1) ∧ Hid (∃ d, wr = wA.drewN d)) (fun i _ => gm + 1 - (intOf i).toNat)
            case atStart => exact ⟨0, Nat.zero_le _, rfl, 0, rfl⟩
            case round =>
              obtain ⟨k4, hk4, rfl, hw4⟩ := hrel
              have HBA : Hid (Below wN.heap.size wN wr) := by
                obtain ⟨d, rfl⟩ := hw4.out
                exact (HNB.out.trans ((drewN_below wA d).mono HNB.out.size) : Below wN.heap.size wN (wA.drewN d))
              by_cases hlt4 : k4 + 1 < gm
              · obtain ⟨y0, hy0⟩ : ∃ x, (outL Lg)[k4]? = some x := ⟨_, List.getElem?_eq_getElem (by rw [HGM.out]; omega)⟩
                obtain ⟨y1, hy1⟩ : ∃ x, (outL Lg)[k4 + 1]? = some x := ⟨_, List.getElem?_eq_getElem (by rw [HGM.out]; omega)⟩
                have q0 : wr.cell? ⟨g, k4, none⟩ = some (encStr y0) := by rw [HBA.out.cell hgl]; exact HGC.out _ _ hy0
                have q1 : wr.cell? ⟨g, k4 + 1, none⟩ = some (encStr y1) := by rw [HBA.out.cell hgl]; exact HGC.out _ _ hy1
                have hless : Op.bytesLess y0 y1 = true := by rw [bytesLess_eq]; exact decide_eq_true (HRI.out.lt (Nat.lt_succ_self _) hy0 hy1)
                have hj0 : (k4 : Int) < (gm : Int) := by omega
                have hj1 : (k4 : Int) + 1 < (gm : Int) := by omega
                clear hy0 hy1
                go_wp2_with fail
                go_quiet (fail)
                go_wp2
                go_roundw
                case rel => exact ⟨k4 + 1, by omega, by go_num, Bytes17.drawn_more hw4.out _⟩
                case measure => simp [intOf]; omega
              · obtain ⟨wB, hwB⟩ : ∃ x, x = wr := ⟨_, rfl⟩
                subst hwB
                have HBB : Hid (Below w.heap.size w wB) := by
                  obtain ⟨d, rfl⟩ := hw4.out
                  exact (below_on HBR.out (drewN_below wA d) : Below w.heap.size w (wA.drewN d))
                have HNB2 : Hid (∀ j y, L[j]? = some y → ∃ g2, ao = some ⟨g2, 0, none⟩ ∧ g2 < wB.heap.size ∧ wB.cell? ⟨g2, j, none⟩ = some (encStr y)) := fun j y hy => by
                  have hjl := (List.getElem?_eq_some_iff.1 hy).1
                  rw [hn.out] at hjl
                  obtain ⟨g2, c2, e2, _⟩ := owns_shape HNR.out (fun e => by cases e; omega)
                  have hcc := HNR.out
                  cases e2
                  obtain ⟨d, rfl⟩ := hw4.out
                  refine ⟨g2, rfl, (hcc.lt g2 rfl).2, ?_⟩
                  show wA.cell? ⟨g2, j, none⟩ = _
                  rw [hcc.cellAt j (by omega), List.getElem?_map, hy]
                  rfl
                go_wp2_with (at_make; go_must (refine wpList_make_full _ rfl _ _ 60 rfl wB.heap.size 4 j0 _ 1 Try.underlying60 ji jz0 jz1 _ _ _ _ gm rfl rfl rfl rfl (by rw [jz2]; omega) (by unfold maxLen; omega) (Nat.le_refl _) ?_); intro w8 hown8 hg8)
                have HH0 : Hid (Hit w8 wB.heap.size gm (fun i => ∃ i', i' < 0 ∧ ∃ y, L[i']? = some y ∧ (outL Lg)[i]? = some y)) := by
                  obtain ⟨cur, e1, e2, e3⟩ := hit_start hown8
                  exact (⟨cur, e1, e2, fun i hi => by obtain ⟨t, e4, _⟩ := e3 i hi; exact ⟨t, e4, fun ⟨i', h0, _⟩ => by omega⟩⟩ : Hit w8 wB.heap.size gm (fun i => ∃ i', i' < 0 ∧ ∃ y, L[i']? = some y ∧ (outL Lg)[i]? = some y))
                have HW8 : Hid (Below wB.heap.size wB w8) := (Below.refl _ _).grown hg8 (Nat.le_refl _) (fun k e => by cases e)
                clear hown8 hg8
                go_loopw [14] (fun i wr => ∃ k : Nat, k ≤ n ∧ i = .int .i64 k ∧ Hid (Below wB.heap.size wB wr) ∧ Hid (Hit wr wB.heap.size gm (fun i => ∃ i', i' < k ∧ ∃ y, L[i']? = some y ∧ (outL Lg)[i]? = some y))) (fun i _ => n - (intOf i).toNat)
                case atStart => exact ⟨0, Nat.zero_le _, rfl, HW8, HH0⟩
                case round =>
                  clear HW8 HH0
                  obtain ⟨k5, hk5, rfl, HW, HH⟩ := hrel
                  by_cases hlt5 : k5 < n
                  · obtain ⟨y, hy⟩ : ∃ y, L[k5]? = some y := ⟨_, List.getElem?_eq_getElem (by rw [hn.out]; exact hlt5)⟩
                    have HY : Hid (L[k5]? = some y) := hy
                    obtain ⟨g2, rfl, hg2l, hg2c⟩ := HNB2.out k5 y hy
                    have q0 : wr.cell? ⟨g2, k5, none⟩ = some (encStr y) := by rw [HW.out.cell hg2l]; exact hg2c
                    obtain ⟨kk, hkk0, hkk1⟩ := List.getElem_of_mem ((HMO.out y).2 (List.mem_of_getElem? hy))
                    have hkk : (outL Lg)[kk]? = some y := by rw [List.getElem?_eq_getElem hkk0, hkk1]
                    have HKK : Hid ((outL Lg)[kk]? = some y) := hkk
                    have hkm : kk < gm := by rw [← HGM.out]; exact hkk0
                    have hj5 : (k5 : Int) < (n : Int) := by omega
                    have hj6 : (kk : Int) < (gm : Int) := by omega
                    have hfind := find_any g gm gc (outL Lg) kk y wr HGM.out hgm2 HRI.out hkk (fun i x hx => by
                      have hgB : g < wB.heap.size := Nat.lt_of_lt_of_le hgl HBA.out.size
                      rw [HW.out.cell hgB, HBA.out.cell hgl]
                      exact HGC.out i x hx)
                    obtain ⟨⟨v0, c0⟩, f0⟩ := HH.out.there hkm
                    clear hy hkk hkk0 hkk1 hg2c
                    go_wp2_with (go_at_call 20; go_must (refine hfind.mono ?_); rintro e w' ⟨rfl, rfl⟩)
                    have HH2 : Hid (Hit (wr.setCell ⟨wB.heap.size, kk, none⟩ (.bool true)) wB.heap.size gm (fun i => ∃ i', i' < k5 + 1 ∧ ∃ y, L[i']? = some y ∧ (outL Lg)[i]? = some y)) := HH.out.set hkm (fun i hT => by
                      obtain ⟨i', h1, z, h2, h3⟩ := hT
                      by_cases e : i' = k5
                      · subst e
                        have e2 := HY.out.symm.trans h2
                        cases e2
                        left
                        rcases Nat.lt_trichotomy i kk with h4 | h4 | h4
                        · exact absurd (HRI.out.lt h4 h3 HKK.out) (List.lt_irrefl _)
                        · exact h4
                        · exact absurd (HRI.out.lt h4 HKK.out h3) (List.lt_irrefl _)
                      · exact .inr ⟨i', by omega, z, h2, h3⟩)
                    have HW2 : Hid (Below wB.heap.size wB (wr.setCell ⟨wB.heap.size, kk, none⟩ (.bool true))) := HW.out.setCell (Nat.le_refl _) _
                    clear hfind
                    go_roundw
                    case rel => exact ⟨k5 + 1, by omega, by go_num, HW2, HH2⟩
                    case measure => simp [intOf]; omega
                  · have HAll : Hid (∀ i, i < gm → wr.cell? ⟨wB.heap.size, i, none⟩ = some (.bool true)) := fun i hi => HH.out.get hi (by
                      obtain ⟨z, hz⟩ : ∃ z, (outL Lg)[i]? = some z := ⟨_, List.getElem?_eq_getElem (by rw [HGM.out]; exact hi)⟩
                      obtain ⟨i', h1, h2⟩ := List.getElem_of_mem ((HMO.out z).1 (List.mem_of_getElem? hz))
                      exact ⟨i', by rw [hn.out] at h1; omega, z, by rw [List.getElem?_eq_getElem h1, h2], hz⟩)
                    have HBE : Hid (Below w.heap.size w wr) := below_on HBB.out HW.out
                    go_wp2_with fail
                    go_loop [16] (fun i => ∃ k : Nat, k ≤ gm ∧ i = .int .i64 k) (fun i => gm - (intOf i).toNat)
                    case atStart => exact ⟨0, Nat.zero_le _, rfl⟩
                    case round =>
                      obtain ⟨k6, hk6, rfl⟩ := hrel
                      by_cases hlt6 : k6 < gm
                      · have q0 := HAll.out k6 hlt6
                        have hj6 : (k6 : Int) < (gm : Int) := by omega
                        go_wp2_with fail
                        go_round
                        case rel => exact ⟨k6 + 1, by omega, by go_num⟩
                        case measure => simp [intOf]; omega
                      · go_wp2_with fail
                        go_ret
                        exact ⟨rfl, HBE.out⟩

end Go.Proofs.Qxb6602669a.Law7
