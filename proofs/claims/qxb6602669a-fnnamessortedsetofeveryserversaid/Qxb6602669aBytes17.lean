/-
  THE WALK of 'zzFSMapBytes' (function 17): it returns some number; the memory is as it was.
-/
import Derived.Test.Qxb6602669aFs
namespace Go.Proofs.Qxb6602669a.Bytes17
open Go.RowKit
open Go.Proofs.Qxb6602669a.Fs
set_option linter.unusedVariables false
set_option linter.unusedSimpArgs false

def Post17 (w : World) (e : Ending) (w' : World) : Prop := ∃ t : Int, e = .returned (.int .i64 t) ∧ Below w.heap.size w w'
theorem post17 {w w' : World} (t : Int) (h : ∃ d, w' = w.drewN d) : Post17 w (.returned (.int .i64 t)) w' := ⟨t, rfl, by obtain ⟨d, rfl⟩ := h; exact drewN_below w d⟩
theorem drawn_more {w wr : World} (h : ∃ d, wr = w.drewN d) (m : Nat) : ∃ d, wr.drewN m = w.drewN d := by
  obtain ⟨d, rfl⟩ := h
  exact ⟨d + m, by simp⟩
theorem drawn_below {w wr : World} (h : ∃ d, wr = w.drewN d) : Below w.heap.size w wr := by
  obtain ⟨d, rfl⟩ := h
  exact drewN_below w d

set_option maxHeartbeats 4000000 in
set_option maxRecDepth 100000 in
theorem bytes_any (a : Option Addr) (len cap : Nat) (ss : List SrvV) (a1 : Option Addr) (len1 cap1 : Nat) (fs : List FsV) (w : World) (h : SrvsAt w a len cap ss) (h1 : FssAt w a1 len1 cap1 fs) (hbig : len ≤ 1048576) (hbig1 : len1 ≤ 1048576) :
    Calls Try.prog 17 #[.slice a len cap, .slice a1 len1 cap1] w fun e w' => Post17 w e w' := by
  go_enter Try.func17, Try.ntmps17
  go_wp2
  go_loopw [5, 6] (fun z i wr => ∃ (k : Nat) (v : Int), k ≤ len ∧ i = .int .i64 k ∧ z = .int .i64 v ∧ 0 ≤ v ∧ v ≤ 1048576 ∧ Hid (∃ d, wr = w.drewN d)) (fun _ i _ => len - (intOf i).toNat)
  case atStart => exact ⟨0, 0, Nat.zero_le _, rfl, rfl, by omega, by omega, 0, rfl⟩
  case round =>
    obtain ⟨k, v, hk, rfl, rfl, hv0, hv1, hw⟩ := hrel
    by_cases hlt : k < len
    · obtain ⟨b, o, rfl, hc⟩ := h.row.at hlt
      have ok := h.ok hlt
      obtain ⟨g0, g1, g2⟩ := srv_cells (drawn_below hw.out) (hc k hlt)
      generalize ss.getD k noSrv = s at *
      have n1 := ok.hname; have n2 := ok.hstate
      unfold maxLen at n1 n2
      have hj : (k : Int) < (len : Int) := by omega
      clear ok hc
      by_cases m1 : s.name.size ≤ 1048576
      · by_cases m2 : s.state.size ≤ 1048576
        · go_wp2_with fail
          go_quiet (fail)
          go_wp2
          · go_ret
            exact post17 _ (drawn_more hw.out _)
          · go_roundw
            case rel => exact ⟨k + 1, _, by omega, by go_num, rfl, by omega, by omega, drawn_more hw.out _⟩
            case measure => simp [intOf]; omega
        · go_wp2
          go_ret
          exact post17 _ hw.out
      · go_wp2
        go_ret
        exact post17 _ hw.out
    · obtain ⟨w1, hw1⟩ : ∃ x, x = wr := ⟨_, rfl⟩
      subst hw1
      go_wp2
      go_loopw [5, 7] (fun z i wr => ∃ (k : Nat) (v : Int), k ≤ len1 ∧ i = .int .i64 k ∧ z = .int .i64 v ∧ 0 ≤ v ∧ v ≤ 1048576 ∧ Hid (∃ d, wr = w.drewN d)) (fun _ i _ => len1 - (intOf i).toNat)
      case atStart => exact ⟨0, v, Nat.zero_le _, rfl, rfl, by omega, by omega, hw⟩
      case round =>
        clear hv0 hv1
        obtain ⟨k2, v2, hk2, rfl, rfl, hv0, hv1, hw2⟩ := hrel
        by_cases hlt2 : k2 < len1
        · obtain ⟨b, o, rfl, hc⟩ := h1.row.at hlt2
          have ok := h1.ok hlt2
          obtain ⟨g0, g1, g2, g3⟩ := fs_cells (drawn_below hw2.out) (hc k2 hlt2)
          have HG : Hid (∀ d, (wr.drewN d).cell? ⟨b, o + k2 * 4 + 1, none⟩ = some (.slice (fs.getD k2 noFs).ia (fs.getD k2 noFs).il (fs.getD k2 noFs).ic)) := fun d => g1
          generalize fs.getD k2 noFs = x at *
          have n1 := ok.hname; have n2 := Nat.le_trans ok.hinfo.row.hle ok.hinfo.row.hcap; have n3 := ok.hnl; have n4 := ok.hdl
          unfold maxLen at n1 n2 n3 n4
          have hj : (k2 : Int) < (len1 : Int) := by omega
          have hen := ok.hinfo
          clear ok hc
          by_cases m1 : x.name.size ≤ 1048576
          · by_cases m2 : x.il ≤ 1048576
            · by_cases m3 : x.nl ≤ 1048576
              · by_cases m4 : x.dl ≤ 1048576
                · obtain ⟨w2, hw2e⟩ : ∃ x, x = wr := ⟨_, rfl⟩
                  subst hw2e
                  go_wp2_with fail
                  go_quiet (fail)
                  go_wp2
                  · go_ret
                    exact post17 _ (drawn_more hw2.out _)
                  · clear g0 g2 g3 g1 HG
                    go_loopw [5, 9] (fun z i wr => ∃ (k : Nat) (v : Int), k ≤ x.il ∧ i = .int .i64 k ∧ z = .int .i64 v ∧ 0 ≤ v ∧ v ≤ 1048576 ∧ Hid (∃ d, wr = w.drewN d)) (fun _ i _ => x.il - (intOf i).toNat)
                    case atStart => exact ⟨0, _, Nat.zero_le _, rfl, rfl, by omega, by omega, drawn_more hw2.out _⟩
                    case round =>
                      obtain ⟨k3, v3, hk3, rfl, rfl, hv30, hv31, hw3⟩ := hrel
                      by_cases hlt3 : k3 < x.il
                      · obtain ⟨b3, o3, e3, hc3⟩ := hen.row.at hlt3
                        have ok3 := hen.ok hlt3
                        obtain ⟨q0, q1, q2, q3⟩ := ent_cells (drawn_below hw3.out) (hc3 k3 hlt3)
                        generalize x.info.getD k3 noEnt = en at *
                        have m0 := ok3.hgid; have m10 := ok3.hsrv.hname; have m20 := ok3.hsrv.hstate
                        unfold maxLen at m0 m10 m20
                        have hj3 : (k3 : Int) < (x.il : Int) := by omega
                        clear ok3 hc3
                        rw [e3]
                        by_cases p0 : en.gid.size ≤ 1048576
                        · by_cases p1 : en.srv.name.size ≤ 1048576
                          · by_cases p2 : en.srv.state.size ≤ 1048576
                            · go_wp2_with fail
                              go_quiet (fail)
                              go_wp2
                              · go_ret
                                exact post17 _ (drawn_more hw3.out _)
                              · go_roundw
                                case rel => exact ⟨k3 + 1, _, by omega, by go_num, rfl, by omega, by omega, drawn_more hw3.out _⟩
                                case measure => simp [intOf]; omega
                            · go_wp2
                              go_ret
                              exact post17 _ hw3.out
                          · go_wp2
                            go_ret
                            exact post17 _ hw3.out
                        · go_wp2
                          go_ret
                          exact post17 _ hw3.out
                      · go_wp2
                        go_roundw
                        case rel => exact ⟨k2 + 1, _, by omega, by go_num, rfl, by omega, by omega, hw3⟩
                        case measure => simp [intOf]; omega
                · go_wp2
                  go_ret
                  exact post17 _ hw2.out
              · go_wp2
                go_ret
                exact post17 _ hw2.out
            · go_wp2
              go_ret
              exact post17 _ hw2.out
          · go_wp2
            go_ret
            exact post17 _ hw2.out
        · go_wp2
          go_ret
          exact post17 _ hw2.out

end Go.Proofs.Qxb6602669a.Bytes17
