/-
  THE WALK of 'zzBytes_FnNamesSortedSetOfEveryServer' (function 16): where it answers true the slices and the entries are few.
-/
import Derived.Test.Qxb6602669aFs
namespace Go.Proofs.Qxb6602669a.Bytes16
open Go.RowKit
open Go.Proofs.Qxb6602669a.Fs
set_option linter.unusedVariables false
set_option linter.unusedSimpArgs false

def Post16 (t : Nat) (e : Ending) (w w' : World) : Prop := ∃ bb : Bool, e = .returned (.bool bb) ∧ (bb = true → t ≤ 1048576) ∧ w = w'
theorem no16 (t : Nat) (w : World) : Post16 t (.returned (.bool false)) w w := ⟨false, rfl, fun h => (by cases h), rfl⟩
theorem yes16 {t : Nat} (w : World) (h : t ≤ 1048576) : Post16 t (.returned (.bool true)) w w := ⟨true, rfl, fun _ => h, rfl⟩

set_option maxHeartbeats 4000000 in
set_option maxRecDepth 100000 in
theorem bytes_any (a : Option Addr) (len cap : Nat) (ss : List SrvV) (a1 : Option Addr) (len1 cap1 : Nat) (fs : List FsV) (w : World) (h : SrvsAt w a len cap ss) (h1 : FssAt w a1 len1 cap1 fs) :
    Calls Try.prog 16 #[.slice a len cap, .slice a1 len1 cap1] w fun e w' => Post16 (len + len1 + sumF fs len1) e w w' := by
  have hcap := Nat.le_trans h.row.hle h.row.hcap
  have hcap1 := Nat.le_trans h1.row.hle h1.row.hcap
  unfold maxLen at hcap hcap1
  have HF : Hid (fs.length = len1) := h1.hlen
  go_enter Try.func16, Try.ntmps16
  by_cases hbig : len ≤ 1048576
  · go_wp2
    go_loop [5, 6] (fun z i => ∃ (k v : Nat), k ≤ len ∧ i = .int .i64 k ∧ z = .int .i64 v ∧ len ≤ v ∧ v ≤ 1048576) (fun _ i => len - (intOf i).toNat)
    case atStart => exact ⟨0, len, Nat.zero_le _, rfl, rfl, Nat.le_refl _, hbig⟩
    case round =>
      obtain ⟨k, v, hk, rfl, rfl, hv0, hv1⟩ := hrel
      by_cases hlt : k < len
      · obtain ⟨b, o, rfl, hc⟩ := h.row.at hlt
        have ok := h.ok hlt
        obtain ⟨g0, g1, g2⟩ := srv_cells (Below.refl _ _) (hc k hlt)
        generalize ss.getD k noSrv = s at *
        have n1 := ok.hname; have n2 := ok.hstate
        unfold maxLen at n1 n2
        have hj : (k : Int) < (len : Int) := by omega
        clear ok hc
        go_wp2
        all_goals first
          | (go_ret; exact no16 _ _)
          | (go_round
             case rel => exact ⟨k + 1, v + s.name.size + s.state.size, by omega, by go_num, by go_num, by omega, by omega⟩
             case measure => simp [intOf]; omega)
      · have _ := hlt
        by_cases hbig1 : len1 ≤ 1048576
        · go_wp2
          · go_ret; exact no16 _ _
          · go_loop [5, 7] (fun z i => ∃ (k v : Nat), k ≤ len1 ∧ i = .int .i64 k ∧ z = .int .i64 v ∧ v ≤ 1048576 ∧ Hid (len + len1 + sumF fs k ≤ v)) (fun _ i => len1 - (intOf i).toNat)
            case atStart => exact ⟨0, v + len1, Nat.zero_le _, rfl, by go_num, by omega, show _ ≤ _ by rw [sumF_zero]; omega⟩
            case round =>
              obtain ⟨k2, v2, hk2, rfl, rfl, hv2, HS⟩ := hrel
              by_cases hlt2 : k2 < len1
              · obtain ⟨b, o, rfl, hc⟩ := h1.row.at hlt2
                have ok := h1.ok hlt2
                have hsum := sumF_succ fs k2 (by rw [HF.out]; exact hlt2)
                obtain ⟨g0, g1, g2, g3⟩ := fs_cells (Below.refl _ _) (hc k2 hlt2)
                generalize fs.getD k2 noFs = x at *
                have HQ : Hid (sumF fs (k2 + 1) = sumF fs k2 + x.il) := hsum
                have n1 := ok.hname; have n2 := Nat.le_trans ok.hinfo.row.hle ok.hinfo.row.hcap; have n3 := ok.hnl; have n4 := ok.hdl
                unfold maxLen at n1 n2 n3 n4
                have hj : (k2 : Int) < (len1 : Int) := by omega
                have hen := ok.hinfo
                clear ok hc hsum
                go_wp2
                all_goals try (go_ret; exact no16 _ _)
                go_loop [5, 8] (fun z i => ∃ (k3 v3 : Nat), k3 ≤ x.il ∧ i = .int .i64 k3 ∧ z = .int .i64 v3 ∧ v2 + x.il ≤ v3 ∧ v3 ≤ 1048576) (fun _ i => x.il - (intOf i).toNat)
                case atStart => exact ⟨0, v2 + x.name.size + x.il, Nat.zero_le _, rfl, by go_num, by omega, by omega⟩
                case round =>
                  obtain ⟨k3, v3, hk3, rfl, rfl, hv30, hv31⟩ := hrel
                  by_cases hlt3 : k3 < x.il
                  · obtain ⟨b3, o3, e3, hc3⟩ := hen.row.at hlt3
                    have ok3 := hen.ok hlt3
                    obtain ⟨q0, q1, q2, q3⟩ := ent_cells (Below.refl _ _) (hc3 k3 hlt3)
                    generalize x.info.getD k3 noEnt = en at *
                    have m0 := ok3.hgid; have m1 := ok3.hsrv.hname; have m2 := ok3.hsrv.hstate
                    unfold maxLen at m0 m1 m2
                    have hj3 : (k3 : Int) < (x.il : Int) := by omega
                    rw [e3] at g1
                    clear ok3 hc3 hen
                    go_wp2
                    all_goals first
                      | (go_ret; exact no16 _ _)
                      | (go_round
                         case rel => exact ⟨k3 + 1, v3 + en.gid.size + en.srv.name.size + en.srv.state.size, by omega, by go_num, by go_num, by omega, by omega⟩
                         case measure => simp [intOf]; omega)
                  · have _ := hlt
                    go_wp2
                    all_goals first
                      | (go_ret; exact no16 _ _)
                      | (go_round
                         case rel => exact ⟨k2 + 1, v3 + x.nl + x.dl, by omega, by go_num, by go_num, by omega, show _ ≤ _ by rw [HQ.out]; have := HS.out; omega⟩
                         case measure => simp [intOf]; omega)
              · have HK : Hid (k2 = len1) := (show k2 = len1 by omega)
                go_wp2
                go_ret
                exact yes16 _ (Nat.le_trans (HK.out ▸ HS.out) (by omega))
        · go_wp2
          go_ret
          exact no16 _ _
  · go_wp2
    go_ret
    exact no16 _ _

end Go.Proofs.Qxb6602669a.Bytes16
