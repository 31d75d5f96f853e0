/-
  THE WALK of 'zzFSMap' (function 18).
-/
import Derived.Test.Qxb6602669aFSP
import Derived.Test.Qxb6602669aOwn
import Derived.StillTailTactics
import Derived.Deep.LoopGhost
import Derived.Deep.CutRange
import Derived.Deep.RegionWith
import Derived.Deep.DeepMust
import Derived.BigRegion
namespace Go.Proofs.Qxb6602669a.FSMap
open Go.RowKit
open Go.Maps (Keyed)
open Go.Proofs.Qxb6602669a.Fs Go.Proofs.Qxb6602669a.MapK Go.Proofs.Qxb6602669a.FSP Go.Proofs.Qxb6602669a.Srv Go.Proofs.Qxb6602669a.OwnL
set_option linter.unusedVariables false
set_option linter.unusedSimpArgs false

set_option maxHeartbeats 4000000 in
set_option maxRecDepth 100000 in
theorem fsmap_any (a : Option Addr) (len cap : Nat) (ss : List SrvV) (a1 : Option Addr) (len1 cap1 : Nat) (fs : List FsV) (w : World) (h : SrvsAt w a len cap ss) (h1 : FssAt w a1 len1 cap1 fs) (hbig : len + len1 + sumF fs len1 ≤ 1048576) :
    Calls Try.prog 18 #[.slice a len cap, .slice a1 len1 cap1] w fun e w' => Post18 w ss fs len len1 e w' := by
  obtain ⟨i0, hi, hz0, hz1, hz2⟩ := info_parts info70
  obtain ⟨j0, ji, jz0, jz1, jz2⟩ := info_parts info76
  have hn0 := fun wx => run_neq_slice_nil_any (P := Try.prog) wx 44 53 a len cap 0 0 Try.underlying44
  go_enter Try.func18, Try.ntmps18
  go_upto_if 15 with fail
  go_cut [5] from 12 (fun s5 wc => s5 = .pointer (some ⟨w.heap.size, 0, none⟩) ∧ Hid (Stage1 w wc ss len))
  case first =>
    cases a with
    | none =>
      obtain ⟨rfl, rfl⟩ := h.row.hnone rfl
      go_wp2_with fail
      go_meet
      exact ⟨rfl, Stage1_nil w ss⟩
    | some ad =>
      go_wp2_with (at_make; go_must (refine wpList_make_full _ rfl _ _ 65 rfl (w.heap.size + 1) 70 i0 _ 3 Try.underlying65 hi hz0 hz1 _ _ _ _ len rfl rfl rfl rfl (by rw [hz2]; omega) (by unfold maxLen; omega) (by simp) ?_); intro w1 hown1 hgr1)
      rw [World.size_alloc] at hown1
      have HJ : Hid (J1 w w1 ss len 0) := J1_start hown1 hgr1
      clear hown1 hgr1
      go_loopw [7] (fun i wr => ∃ k : Nat, k ≤ len ∧ i = .int .i64 k ∧ Hid (J1 w wr ss len k)) (fun i _ => len - (intOf i).toNat)
      case atStart => exact ⟨0, Nat.zero_le _, rfl, HJ⟩
      case round =>
        clear HJ
        obtain ⟨k, hk, rfl, HJ⟩ := hrel
        by_cases hlt : k < len
        · obtain ⟨b, o, e, hc⟩ := h.row.at hlt
          cases e
          obtain ⟨g0, g1, g2⟩ := srv_cells HJ.out.1 (hc k hlt)
          generalize hs : ss.getD k noSrv = s at *
          have HS : Hid (ss.getD k noSrv = s) := hs
          have hL := (HJ.out.2.2.alloc (.cells #[.string s.name, .int .i64 s.rank, .string s.state] 53)).alloc (.cells #[.string s.name, .int .i64 s.rank, .string s.state] 70)
          obtain ⟨⟨v0, c0⟩, f0⟩ := hL.there (k * 3) (by omega)
          obtain ⟨⟨v1, c1⟩, f1⟩ := hL.there (k * 3 + 1) (by omega)
          obtain ⟨⟨v2, c2⟩, f2⟩ := hL.there (k * 3 + 2) (by omega)
          have hj : (k : Int) < (len : Int) := by omega
          clear hs hc hL
          go_wp2_with (go_at_call 22; go_must (refine (server_any s _).mono ?_); rintro e w' ⟨rfl, rfl⟩)
          go_roundw
          case rel => exact ⟨k + 1, by omega, by go_num, J1_step HJ.out hlt HS.out _ _⟩
          case measure => simp [intOf]; omega
        · have HK : Hid (J1 w wr ss len len) := (show k = len by omega) ▸ HJ
          obtain ⟨⟨v0, c0⟩, f0⟩ := HK.out.there0
          go_wp2_with fail
          go_meet
          exact ⟨rfl, J1_end HK.out (by unfold maxLen; omega)⟩
  case rest =>
  obtain ⟨rfl, HS1⟩ := hcut
  have hn1 := fun wx => run_neq_slice_nil_any (P := Try.prog) wx 45 56 a1 len1 cap1 0 0 Try.underlying45
  clear hn0
  cases a1 with
  | none =>
    obtain ⟨rfl, rfl⟩ := h1.row.hnone rfl
    go_wp2_with fail
    go_ret
    exact Post18_nil HS1.out
  | some ad =>
    have hm1 := run_makeMap_hint (P := Try.prog) 72 9 70 Try.underlying72
    go_wp2_with (at_make; go_must (refine wpList_make_full _ rfl _ _ 66 rfl wc.heap.size 76 j0 _ 4 Try.underlying66 ji jz0 jz1 _ _ _ _ len1 rfl rfl rfl rfl (by rw [jz2]; omega) (by unfold maxLen; omega) (Nat.le_refl _) ?_); intro w1 hown1 hgr1)
    have HJ : Hid (J2 wc w1 fs len1 (fun _ => none) 0) := J2_start _ hown1 hgr1
    clear hown1 hgr1
    go_loopg [9] len1 (fun gk i wr => ∃ (k : Nat) (mb : Nat → Option Nat), k ≤ len1 ∧ i = .int .i64 k ∧ len1 - k ≤ gk ∧ Hid (J2 wc wr fs len1 mb k))
    case atStart => exact ⟨0, _, Nat.zero_le _, rfl, by omega, HJ⟩
    case round =>
      clear HJ
      obtain ⟨k, mb, hk, rfl, hgk, HJ⟩ := hrel
      by_cases hlt : k < len1
      · obtain ⟨b, o, e, hc⟩ := h1.row.at hlt
        cases e
        have ok := h1.ok hlt
        have HC : Hid (∀ f, f < 4 → w.cell? ⟨b, o + k * 4 + f, none⟩ = some ((fs.getD k noFs).cell f)) := hc k hlt
        have hb1 := below_on HS1.out.1 HJ.out.1
        obtain ⟨g0, g1, g2, g3⟩ := fs_cells hb1 HC.out
        generalize hx : fs.getD k noFs = x at *
        have HX : Hid (fs.getD k noFs = x) := hx
        have HEN := ok.hinfo
        have hil : x.il ≤ 1048576 := by
          have e1 := sumF_succ fs k (by rw [h1.hlen]; exact hlt)
          rw [hx] at e1
          have e2 := sumF_mono fs (show k + 1 ≤ len1 by omega)
          omega
        have hj : (k : Int) < (len1 : Int) := by omega
        obtain ⟨wr1, hwr1⟩ : ∃ x, x = wr := ⟨_, rfl⟩
        subst hwr1
        clear hx hc ok
        have hn2 := fun wx => run_neq_slice_nil_any (P := Try.prog) wx 54 59 x.ia x.il x.ic 0 0 Try.underlying54
        go_upto_if 53 with fail
        go_cut [10] from 42 to 111 (fun s10 wx => ∃ mo, s10 = .map mo ∧ Hid (K2 wr1 wx x mo))
        case first =>
          cases hia : x.ia with
          | none =>
            have hinf : x.info = [] := List.eq_nil_of_length_eq_zero (HEN.hlen.trans (HEN.row.hnone hia).1)
            rw [hia] at g1 hn2
            go_wp2_with fail
            go_meet
            exact ⟨none, rfl, K2_nil wr1 hinf⟩
          | some ai =>
            rw [hia] at g1 hn2
            have HBW : Hid (Below w.heap.size w wr1) := hb1
            have HLI : Hid (x.info.length = x.il) := HEN.hlen
            go_wp2_with fail
            go_loopg [11] x.il (fun gk i wr => ∃ (j : Nat), j ≤ x.il ∧ i = .int .i64 j ∧ x.il - j ≤ gk ∧ Hid (J3 wr1 wr x.info j))
            case atStart => exact ⟨0, Nat.zero_le _, rfl, by omega, J3_start wr1 x.info⟩
            case round =>
              obtain ⟨j, hjl, rfl, hgj, H3⟩ := hrel
              have hb3 := below_on HBW.out H3.out.1
              clear g0 g1 g2 g3
              obtain ⟨g0, g1, g2, g3⟩ := fs_cells hb3 HC.out
              rw [hia] at g1
              by_cases hltj : j < x.il
              · obtain ⟨b3, o3, e3, hc3⟩ := HEN.row.at hltj
                rw [hia] at e3
                cases e3
                have ok3 := HEN.ok hltj
                obtain ⟨q0, q1, q2, q3⟩ := ent_cells hb3 (hc3 j hltj)
                generalize hen : x.info.getD j noEnt = en at *
                have hj3 : (j : Int) < (x.il : Int) := by omega
                obtain ⟨w5, hrun, HJ5⟩ := J3_put H3.out (by rw [HLI.out]; exact hltj) hen (by unfold maxLen; omega) ok3.hgid (.cells #[.string en.srv.name, .int .i64 en.srv.rank, .string en.srv.state] 53) (.cells #[.string en.srv.name, .int .i64 en.srv.rank, .string en.srv.state] 70)
                have HJ6 : Hid (J3 wr1 w5 x.info (j + 1)) := HJ5
                have g1' : ((wr.alloc (.cells #[.string en.srv.name, .int .i64 en.srv.rank, .string en.srv.state] 53)).alloc (.cells #[.string en.srv.name, .int .i64 en.srv.rank, .string en.srv.state] 70)).cell? ⟨b, o + k * 4 + 1, none⟩ = some (.slice (some ⟨b3, o3, none⟩) x.il x.ic) := by
                  have hlt := World.block_lt_of_cell? wr _ g1
                  rw [World.cell?_alloc_lt _ _ _ (by rw [World.size_alloc]; exact Nat.lt_succ_of_lt hlt), World.cell?_alloc_lt _ _ _ hlt, g1]
                have q0' : ((wr.alloc (.cells #[.string en.srv.name, .int .i64 en.srv.rank, .string en.srv.state] 53)).alloc (.cells #[.string en.srv.name, .int .i64 en.srv.rank, .string en.srv.state] 70)).cell? ⟨b3, o3 + j * 4, none⟩ = some (.string en.gid) := by
                  have hlt := World.block_lt_of_cell? wr _ q0
                  rw [World.cell?_alloc_lt _ _ _ (by rw [World.size_alloc]; exact Nat.lt_succ_of_lt hlt), World.cell?_alloc_lt _ _ _ hlt, q0]
                clear hen ok3 hc3 HJ5 g0 g2 g3
                go_upto_region 20 with fail
                go_region_with (go_at_call 22; refine (server_any en.srv _).mono ?_; rintro e w' ⟨rfl, rfl⟩)
                all_goals
                  go_wp2_with fail
                  go_roundg (x.il - (j + 1))
                  case measure => omega
                  case rel => exact ⟨j + 1, by omega, by go_num, by omega, HJ6⟩
              · have HK3 : Hid (K2 wr1 wr x (some wr1.heap.size)) := K2_end ((show j = x.info.length by rw [HLI.out]; omega) ▸ H3.out) HLI.out
                go_wp2_with fail
                go_meet
                exact ⟨_, rfl, HK3⟩
        case rest =>
        obtain ⟨mo, rfl, HK⟩ := hcut
        have hb4 := below_on hb1 HK.out.1
        obtain ⟨g0', g1', g2', g3'⟩ := fs_cells hb4 HC.out
        have hL := HJ.out.2.1.block (HK.out.1.block _ HJ.out.2.1.lt)
        obtain ⟨⟨v0, c0⟩, f0⟩ := hL.there (k * 4) (by omega)
        obtain ⟨⟨v1, c1⟩, f1⟩ := hL.there (k * 4 + 1) (by omega)
        obtain ⟨⟨v2, c2⟩, f2⟩ := hL.there (k * 4 + 2) (by omega)
        obtain ⟨⟨v3, c3⟩, f3⟩ := hL.there (k * 4 + 3) (by omega)
        clear hL g0 g1 g2 g3 g1' hb1 hb4 hn2
        go_wp2_with fail
        go_still_tail 21, (by kernel_rfl)
        go_wp2
        go_roundg (len1 - (k + 1))
        case measure => omega
        case rel => exact ⟨k + 1, _, by omega, by go_num, by omega, J2_step HJ.out hlt HX.out HK.out⟩
      · have HK : Hid (J2 wc wr fs len1 mb len1) := (show k = len1 by omega) ▸ HJ
        obtain ⟨⟨v0, c0⟩, f0⟩ := J2_there HS1.out HK.out
        go_wp2_with fail
        go_ret
        exact J2_end HS1.out HK.out (by unfold maxLen; omega)

end Go.Proofs.Qxb6602669a.FSMap
