/-
  THE WALK of 'sharedStart' (function 21), 'ZZSharedStart' (13) and 'bytes.Equal' (25).
-/
import Derived.Test.Qxb6602669aRows
import Derived.Test.Qxb6602669aLcp
import Derived.WalkKit
import Derived.WalkSpells
import Derived.WalkLawsBesides
import Derived.Laws.BytesArg
import Derived.Deep.QuietTactic
import Derived.BigQuiet
import Derived.Lib.Bytes
namespace Go.Proofs.Qxb6602669a.Share
open Go.RowKit
open Go.Proofs.Qxb6602669a.Lcp
set_option linter.unusedVariables false

/-- Each number is a byte. -/
def Bytes (xs : List Int) : Prop := ∀ n ∈ xs, 0 ≤ n ∧ n ≤ 255

theorem nums_inj : ∀ (xs ys : List Int), Bytes xs → Bytes ys → (xs.map fun n => UInt8.ofNat n.toNat) = (ys.map fun n => UInt8.ofNat n.toNat) → xs = ys
  | [], [], _, _, _ => rfl
  | [], _ :: _, _, _, h => by simp at h
  | _ :: _, [], _, _, h => by simp at h
  | x :: xs, y :: ys, hx, hy, h => by
    simp only [List.map_cons, List.cons.injEq] at h
    obtain ⟨h0, h1⟩ := h
    have bx := hx x (by simp)
    have by' := hy y (by simp)
    have e : x = y := by
      have := congrArg UInt8.toNat h0
      simp at this
      omega
    rw [e, nums_inj xs ys (fun n hn => hx n (by simp [hn])) (fun n hn => hy n (by simp [hn])) h1]

def eqB (xs ys : List Int) : Bool := (strOfNums xs).toList == (strOfNums ys).toList
theorem eqB_iff (xs ys : List Int) (hx : Bytes xs) (hy : Bytes ys) : eqB xs ys = decide (xs = ys) := by
  unfold eqB
  rw [Lib.toList_data, Lib.toList_data, strOfNums_data, strOfNums_data, Bool.eq_iff_iff, beq_iff_eq, decide_eq_true_iff]
  exact ⟨nums_inj xs ys hx hy, fun h => by rw [h]⟩

theorem equal_any (b1 o1 n1 c1 b2 o2 n2 c2 : Nat) (xs ys : List Int) (w : World) (hx : xs.length = n1) (hy : ys.length = n2)
    (h1 : ∀ i, i < n1 → w.cell? ⟨b1, o1 + i, none⟩ = some (.int .u8 (xs.getD i 0)))
    (h2 : ∀ i, i < n2 → w.cell? ⟨b2, o2 + i, none⟩ = some (.int .u8 (ys.getD i 0))) :
    Calls Try.prog 25 #[.slice (some ⟨b1, o1, none⟩) n1 c1, .slice (some ⟨b2, o2, none⟩) n2 c2] w fun e w' => e = .returned (.bool (eqB xs ys)) ∧ w' = w := by
  have g1 := run_convert_bytes_arg (P := Try.prog) w 40 5 Try.underlying40 Try.underlying5 b1 o1 n1 c1 xs hx h1 9 Try.underlying9
  have g2 := run_convert_bytes_arg (P := Try.prog) w 40 5 Try.underlying40 Try.underlying5 b2 o2 n2 c2 ys hy h2 9 Try.underlying9
  clear h1 h2
  go_enter Try.func25, Try.ntmps25
  go_wp2
  go_ret
  exact ⟨rfl, rfl⟩

/-- What the walk is told of a slice of bytes: its cells, and that they are bytes. -/
structure Row (w : World) (b o n c : Nat) (xs : List Int) : Prop where
  len : xs.length = n
  cap : n ≤ c
  lim : n ≤ 1048576
  cells : ∀ i, i < n → w.cell? ⟨b, o + i, none⟩ = some (.int .u8 (xs.getD i 0))
  bytes : Bytes xs


theorem agree_more (xs ys : List Int) (k m : Nat) (h : ∀ i, i < k → xs.getD i 0 = ys.getD i 0) (e : (xs.drop k).take m = (ys.drop k).take m) : ∀ i, i < k + m → xs.getD i 0 = ys.getD i 0 := by
  intro i hi
  by_cases hk : i < k
  · exact h i hk
  · have := congrArg (fun l => l.getD (i - k) 0) e
    simp only [List.getD, List.getElem?_take, List.getElem?_drop, if_pos (show i - k < m by omega), show k + (i - k) = i by omega] at this
    exact this

theorem Row.part {w : World} {b o n c : Nat} {xs : List Int} (r : Row w b o n c xs) (k m : Nat) (h : k + m ≤ n) :
    ((xs.drop k).take m).length = m ∧ (∀ i, i < m → w.cell? ⟨b, o + k + i, none⟩ = some (.int .u8 (((xs.drop k).take m).getD i 0))) ∧ Bytes ((xs.drop k).take m) := by
  have hl := r.len
  refine ⟨by simp; omega, fun i hi => ?_, fun n hn => r.bytes n (List.mem_of_mem_drop (List.mem_of_mem_take hn))⟩
  rw [Nat.add_assoc, r.cells (k + i) (by omega)]
  simp [List.getD, List.getElem?_drop, hi]

theorem ret_int {k : IntKind} {a b : Int} (h : a = b) : Ending.returned (.int k a) = .returned (.int k b) := by rw [h]

theorem share_step (xs ys : List Int) (k : Nat) (h : ∀ i, i < k → xs.getD i 0 = ys.getD i 0) :
    (xs.getD k 0 = ys.getD k 0 → ∀ i, i < k + 1 → xs.getD i 0 = ys.getD i 0) ∧ (¬ xs.getD k 0 = ys.getD k 0 → k < xs.length → k < ys.length → lcp xs ys = k) := by
  refine ⟨fun e i hi => ?_, fun e h1 h2 => lcp_eq xs ys k (by omega) (by omega) h (fun _ _ => e)⟩
  by_cases hk : i < k
  · exact h i hk
  · rw [show i = k by omega]; exact e

theorem Row.drawn {w wr : World} {b o n c : Nat} {xs : List Int} (r : Row w b o n c xs) (h : ∃ d, wr = w.drewN d) : Row wr b o n c xs := by
  obtain ⟨d, rfl⟩ := h
  exact ⟨r.len, r.cap, r.lim, r.cells, r.bytes⟩

theorem drawn_more {w wr : World} (h : ∃ d, wr = w.drewN d) (m : Nat) : ∃ d, wr.drewN m = w.drewN d := by
  obtain ⟨d, rfl⟩ := h
  exact ⟨d + m, by simp⟩

set_option maxHeartbeats 1000000 in
theorem share_le (b1 o1 n1 c1 b2 o2 n2 c2 : Nat) (xs ys : List Int) (w : World) (r1 : Row w b1 o1 n1 c1 xs) (r2 : Row w b2 o2 n2 c2 ys) (hle : n1 ≤ n2) :
    Calls Try.prog 21 #[.slice (some ⟨b1, o1, none⟩) n1 c1, .slice (some ⟨b2, o2, none⟩) n2 c2] w fun e w' => e = .returned (.int .i64 (lcp xs ys)) ∧ ∃ d, w' = w.drewN d := by
  have l1 := r1.lim
  have l2 := r2.lim
  have k1 := r1.cap
  have k2 := r2.cap
  go_enter Try.func21, Try.ntmps21
  go_wp2
  go_loopw [6] (fun i wr => ∃ k : Nat, k ≤ n1 ∧ i = .int .i64 k ∧ Hid (∀ j, j < k → xs.getD j 0 = ys.getD j 0) ∧ Hid (∃ d, wr = w.drewN d)) (fun i _ => n1 - (intOf i).toNat)
  case atStart => exact ⟨0, Nat.zero_le _, rfl, fun j hj => by omega, ⟨0, rfl⟩⟩
  case round =>
    obtain ⟨k, hk, rfl, hag, hw⟩ := hrel
    by_cases hlt : k + 1024 ≤ n1
    · obtain ⟨p1, q1, s1⟩ := (r1.drawn hw.out).part k 1024 hlt
      obtain ⟨p2, q2, s2⟩ := (r2.drawn hw.out).part k 1024 (by omega)
      have hne1 : ¬ c1 = k := by omega
      have hne2 : ¬ c2 = k := by omega
      have he := eqB_iff _ _ s1 s2
      have hi1 : (k : Int) + 1024 ≤ (n1 : Int) := by omega
      have hd1 : ((xs.drop k).take 1024 = (ys.drop k).take 1024) ∨ ¬ ((xs.drop k).take 1024 = (ys.drop k).take 1024) := Classical.em _
      have hmore := agree_more xs ys k 1024 hag.out
      generalize (xs.drop k).take 1024 = x1 at *
      generalize (ys.drop k).take 1024 = y1 at *
      have HM : Hid (x1 = y1 → ∀ i, i < k + 1024 → xs.getD i 0 = ys.getD i 0) := hmore
      have HE : Hid (eqB x1 y1 = decide (x1 = y1)) := he
      clear he hmore
      rcases hd1 with heq | heq
      · have hb : eqB x1 y1 = true := by rw [HE.out]; simpa using heq
        have HQ : Hid (x1 = y1) := heq
        clear heq
        go_wp2_with fail
        go_quiet ((go_at_call 25; exact Calls.quiet_of_same (equal_any b1 (o1 + k) 1024 (c1 - k) b2 (o2 + k) 1024 (c2 - k) x1 y1 _ p1 p2 (by exact q1) (by exact q2))))
        go_wp2
        go_roundw
        case rel => exact ⟨k + 1024, by omega, by go_num, HM.out HQ.out, drawn_more hw.out _⟩
        case measure => simp [intOf]; omega
      · have hb : eqB x1 y1 = false := by rw [HE.out]; simpa using heq
        have HQ : Hid (¬ x1 = y1) := heq
        clear heq
        go_wp2_with fail
        go_quiet ((go_at_call 25; exact Calls.quiet_of_same (equal_any b1 (o1 + k) 1024 (c1 - k) b2 (o2 + k) 1024 (c2 - k) x1 y1 _ p1 p2 (by exact q1) (by exact q2))))
        go_wp2
        clear q1 q2 p1 p2 s1 s2 HM HE hb HQ hne1 hne2
        go_loopw [6] (fun i wr => ∃ k : Nat, k ≤ n1 ∧ i = .int .i64 k ∧ Hid (∀ j, j < k → xs.getD j 0 = ys.getD j 0) ∧ Hid (∃ d, wr = w.drewN d)) (fun i _ => n1 - (intOf i).toNat)
        case atStart => exact ⟨k, hk, rfl, hag, drawn_more hw.out _⟩
        case round =>
          clear hw hag
          obtain ⟨k2, hk2, rfl, hag, hw⟩ := hrel
          by_cases hlt2 : k2 < n1
          · have hc1 := (r1.drawn hw.out).cells k2 (by omega)
            have hc2 := (r2.drawn hw.out).cells k2 (by omega)
            have HS := share_step xs ys k2 hag.out
            generalize xs.getD k2 0 = x at *
            generalize ys.getD k2 0 = y at *
            have HS' : Hid _ := HS
            clear HS
            have hj1 : (k2 : Int) < (n1 : Int) := by omega
            have hj2 : (k2 : Int) < (n2 : Int) := by omega
            by_cases hxy : x = y
            · have hb : (x == y) = true := by simpa using hxy
              have HX : Hid (x = y) := hxy
              clear hxy
              go_wp2_with fail
              go_quiet (fail)
              go_wp2
              go_roundw
              case rel => exact ⟨k2 + 1, by omega, by go_num, HS'.out.1 HX.out, drawn_more hw.out _⟩
              case measure => simp [intOf]; omega
            · have hb : (x == y) = false := by simpa using hxy
              have HX : Hid (¬ x = y) := hxy
              clear hxy
              go_wp2_with fail
              go_quiet (fail)
              go_wp2
              go_ret
              refine ⟨?_, drawn_more hw.out _⟩
              exact ret_int (by rw [HS'.out.2 HX.out (by rw [r1.len]; omega) (by rw [r2.len]; omega)])
          · have hi2 : decide ((k2 : Int) < (n1 : Int)) = false := decide_eq_false (by omega)
            go_wp2_with fail
            go_quiet (fail)
            go_wp2
            go_ret
            refine ⟨?_, drawn_more hw.out _⟩
            exact ret_int (by rw [lcp_eq xs ys k2 (by rw [r1.len]; omega) (by rw [r2.len]; omega) hag.out (fun h _ => by rw [r1.len] at h; omega)])
    · have hi1 : decide ((k : Int) + 1024 ≤ (n1 : Int)) = false := decide_eq_false (by omega)
      go_wp2_with fail
      go_quiet (fail)
      go_wp2
      go_loopw [6] (fun i wr => ∃ k : Nat, k ≤ n1 ∧ i = .int .i64 k ∧ Hid (∀ j, j < k → xs.getD j 0 = ys.getD j 0) ∧ Hid (∃ d, wr = w.drewN d)) (fun i _ => n1 - (intOf i).toNat)
      case atStart => exact ⟨k, hk, rfl, hag, drawn_more hw.out _⟩
      case round =>
        clear hw hag
        obtain ⟨k2, hk2, rfl, hag, hw⟩ := hrel
        by_cases hlt2 : k2 < n1
        · have hc1 := (r1.drawn hw.out).cells k2 (by omega)
          have hc2 := (r2.drawn hw.out).cells k2 (by omega)
          have HS := share_step xs ys k2 hag.out
          generalize xs.getD k2 0 = x at *
          generalize ys.getD k2 0 = y at *
          have HS' : Hid _ := HS
          clear HS
          have hj1 : (k2 : Int) < (n1 : Int) := by omega
          have hj2 : (k2 : Int) < (n2 : Int) := by omega
          by_cases hxy : x = y
          · have hb : (x == y) = true := by simpa using hxy
            have HX : Hid (x = y) := hxy
            clear hxy
            go_wp2_with fail
            go_quiet (fail)
            go_wp2
            go_roundw
            case rel => exact ⟨k2 + 1, by omega, by go_num, HS'.out.1 HX.out, drawn_more hw.out _⟩
            case measure => simp [intOf]; omega
          · have hb : (x == y) = false := by simpa using hxy
            have HX : Hid (¬ x = y) := hxy
            clear hxy
            go_wp2_with fail
            go_quiet (fail)
            go_wp2
            go_ret
            refine ⟨?_, drawn_more hw.out _⟩
            exact ret_int (by rw [HS'.out.2 HX.out (by rw [r1.len]; omega) (by rw [r2.len]; omega)])
        · have hi2 : decide ((k2 : Int) < (n1 : Int)) = false := decide_eq_false (by omega)
          go_wp2_with fail
          go_quiet (fail)
          go_wp2
          go_ret
          refine ⟨?_, drawn_more hw.out _⟩
          exact ret_int (by rw [lcp_eq xs ys k2 (by rw [r1.len]; omega) (by rw [r2.len]; omega) hag.out (fun h _ => by rw [r1.len] at h; omega)])
set_option maxHeartbeats 1000000 in
theorem share_gt (b1 o1 n1 c1 b2 o2 n2 c2 : Nat) (xs ys : List Int) (w : World) (r1 : Row w b1 o1 n1 c1 xs) (r2 : Row w b2 o2 n2 c2 ys) (hle : n2 < n1) :
    Calls Try.prog 21 #[.slice (some ⟨b1, o1, none⟩) n1 c1, .slice (some ⟨b2, o2, none⟩) n2 c2] w fun e w' => e = .returned (.int .i64 (lcp xs ys)) ∧ ∃ d, w' = w.drewN d := by
  have l1 := r1.lim
  have l2 := r2.lim
  have k1 := r1.cap
  have k2 := r2.cap
  go_enter Try.func21, Try.ntmps21
  go_wp2
  go_loopw [6] (fun i wr => ∃ k : Nat, k ≤ n2 ∧ i = .int .i64 k ∧ Hid (∀ j, j < k → xs.getD j 0 = ys.getD j 0) ∧ Hid (∃ d, wr = w.drewN d)) (fun i _ => n2 - (intOf i).toNat)
  case atStart => exact ⟨0, Nat.zero_le _, rfl, fun j hj => by omega, ⟨0, rfl⟩⟩
  case round =>
    obtain ⟨k, hk, rfl, hag, hw⟩ := hrel
    by_cases hlt : k + 1024 ≤ n2
    · obtain ⟨p1, q1, s1⟩ := (r1.drawn hw.out).part k 1024 (by omega)
      obtain ⟨p2, q2, s2⟩ := (r2.drawn hw.out).part k 1024 (by omega)
      have hne1 : ¬ c1 = k := by omega
      have hne2 : ¬ c2 = k := by omega
      have he := eqB_iff _ _ s1 s2
      have hi1 : (k : Int) + 1024 ≤ (n2 : Int) := by omega
      have hd1 : ((xs.drop k).take 1024 = (ys.drop k).take 1024) ∨ ¬ ((xs.drop k).take 1024 = (ys.drop k).take 1024) := Classical.em _
      have hmore := agree_more xs ys k 1024 hag.out
      generalize (xs.drop k).take 1024 = x1 at *
      generalize (ys.drop k).take 1024 = y1 at *
      have HM : Hid (x1 = y1 → ∀ i, i < k + 1024 → xs.getD i 0 = ys.getD i 0) := hmore
      have HE : Hid (eqB x1 y1 = decide (x1 = y1)) := he
      clear he hmore
      rcases hd1 with heq | heq
      · have hb : eqB x1 y1 = true := by rw [HE.out]; simpa using heq
        have HQ : Hid (x1 = y1) := heq
        clear heq
        go_wp2_with fail
        go_quiet ((go_at_call 25; exact Calls.quiet_of_same (equal_any b1 (o1 + k) 1024 (c1 - k) b2 (o2 + k) 1024 (c2 - k) x1 y1 _ p1 p2 (by exact q1) (by exact q2))))
        go_wp2
        go_roundw
        case rel => exact ⟨k + 1024, by omega, by go_num, HM.out HQ.out, drawn_more hw.out _⟩
        case measure => simp [intOf]; omega
      · have hb : eqB x1 y1 = false := by rw [HE.out]; simpa using heq
        have HQ : Hid (¬ x1 = y1) := heq
        clear heq
        go_wp2_with fail
        go_quiet ((go_at_call 25; exact Calls.quiet_of_same (equal_any b1 (o1 + k) 1024 (c1 - k) b2 (o2 + k) 1024 (c2 - k) x1 y1 _ p1 p2 (by exact q1) (by exact q2))))
        go_wp2
        clear q1 q2 p1 p2 s1 s2 HM HE hb HQ hne1 hne2
        go_loopw [6] (fun i wr => ∃ k : Nat, k ≤ n2 ∧ i = .int .i64 k ∧ Hid (∀ j, j < k → xs.getD j 0 = ys.getD j 0) ∧ Hid (∃ d, wr = w.drewN d)) (fun i _ => n2 - (intOf i).toNat)
        case atStart => exact ⟨k, hk, rfl, hag, drawn_more hw.out _⟩
        case round =>
          clear hw hag
          obtain ⟨k2, hk2, rfl, hag, hw⟩ := hrel
          by_cases hlt2 : k2 < n2
          · have hc1 := (r1.drawn hw.out).cells k2 (by omega)
            have hc2 := (r2.drawn hw.out).cells k2 (by omega)
            have HS := share_step xs ys k2 hag.out
            generalize xs.getD k2 0 = x at *
            generalize ys.getD k2 0 = y at *
            have HS' : Hid _ := HS
            clear HS
            have hj1 : (k2 : Int) < (n1 : Int) := by omega
            have hj2 : (k2 : Int) < (n2 : Int) := by omega
            by_cases hxy : x = y
            · have hb : (x == y) = true := by simpa using hxy
              have HX : Hid (x = y) := hxy
              clear hxy
              go_wp2_with fail
              go_quiet (fail)
              go_wp2
              go_roundw
              case rel => exact ⟨k2 + 1, by omega, by go_num, HS'.out.1 HX.out, drawn_more hw.out _⟩
              case measure => simp [intOf]; omega
            · have hb : (x == y) = false := by simpa using hxy
              have HX : Hid (¬ x = y) := hxy
              clear hxy
              go_wp2_with fail
              go_quiet (fail)
              go_wp2
              go_ret
              refine ⟨?_, drawn_more hw.out _⟩
              exact ret_int (by rw [HS'.out.2 HX.out (by rw [r1.len]; omega) (by rw [r2.len]; omega)])
          · have hi2 : decide ((k2 : Int) < (n2 : Int)) = false := decide_eq_false (by omega)
            go_wp2_with fail
            go_quiet (fail)
            go_wp2
            go_ret
            refine ⟨?_, drawn_more hw.out _⟩
            exact ret_int (by rw [lcp_eq xs ys k2 (by rw [r1.len]; omega) (by rw [r2.len]; omega) hag.out (fun _ h => by rw [r2.len] at h; omega)])
    · have hi1 : decide ((k : Int) + 1024 ≤ (n2 : Int)) = false := decide_eq_false (by omega)
      go_wp2_with fail
      go_quiet (fail)
      go_wp2
      go_loopw [6] (fun i wr => ∃ k : Nat, k ≤ n2 ∧ i = .int .i64 k ∧ Hid (∀ j, j < k → xs.getD j 0 = ys.getD j 0) ∧ Hid (∃ d, wr = w.drewN d)) (fun i _ => n2 - (intOf i).toNat)
      case atStart => exact ⟨k, hk, rfl, hag, drawn_more hw.out _⟩
      case round =>
        clear hw hag
        obtain ⟨k2, hk2, rfl, hag, hw⟩ := hrel
        by_cases hlt2 : k2 < n2
        · have hc1 := (r1.drawn hw.out).cells k2 (by omega)
          have hc2 := (r2.drawn hw.out).cells k2 (by omega)
          have HS := share_step xs ys k2 hag.out
          generalize xs.getD k2 0 = x at *
          generalize ys.getD k2 0 = y at *
          have HS' : Hid _ := HS
          clear HS
          have hj1 : (k2 : Int) < (n1 : Int) := by omega
          have hj2 : (k2 : Int) < (n2 : Int) := by omega
          by_cases hxy : x = y
          · have hb : (x == y) = true := by simpa using hxy
            have HX : Hid (x = y) := hxy
            clear hxy
            go_wp2_with fail
            go_quiet (fail)
            go_wp2
            go_roundw
            case rel => exact ⟨k2 + 1, by omega, by go_num, HS'.out.1 HX.out, drawn_more hw.out _⟩
            case measure => simp [intOf]; omega
          · have hb : (x == y) = false := by simpa using hxy
            have HX : Hid (¬ x = y) := hxy
            clear hxy
            go_wp2_with fail
            go_quiet (fail)
            go_wp2
            go_ret
            refine ⟨?_, drawn_more hw.out _⟩
            exact ret_int (by rw [HS'.out.2 HX.out (by rw [r1.len]; omega) (by rw [r2.len]; omega)])
        · have hi2 : decide ((k2 : Int) < (n2 : Int)) = false := decide_eq_false (by omega)
          go_wp2_with fail
          go_quiet (fail)
          go_wp2
          go_ret
          refine ⟨?_, drawn_more hw.out _⟩
          exact ret_int (by rw [lcp_eq xs ys k2 (by rw [r1.len]; omega) (by rw [r2.len]; omega) hag.out (fun _ h => by rw [r2.len] at h; omega)])

theorem share_zero1 (a1 a2 : Option Addr) (c1 n2 c2 : Nat) (w : World) (l2 : n2 ≤ 1048576) :
    Calls Try.prog 21 #[.slice a1 0 c1, .slice a2 n2 c2] w fun e w' => e = .returned (.int .i64 0) ∧ ∃ d, w' = w.drewN d := by
  go_enter Try.func21, Try.ntmps21
  go_wp2
  go_loopw [6] (fun i wr => i = .int .i64 0 ∧ Hid (∃ d, wr = w.drewN d)) (fun _ _ => 0)
  case atStart => exact ⟨rfl, 0, rfl⟩
  case round =>
    obtain ⟨rfl, hw⟩ := hrel
    go_wp2_with fail
    go_quiet (fail)
    go_wp2
    go_loopw [6] (fun i wr => i = .int .i64 0 ∧ Hid (∃ d, wr = w.drewN d)) (fun _ _ => 0)
    case atStart => exact ⟨rfl, drawn_more hw.out _⟩
    case round =>
      clear hw
      obtain ⟨rfl, hw⟩ := hrel
      go_wp2_with fail
      go_quiet (fail)
      go_wp2
      go_ret
      exact ⟨rfl, drawn_more hw.out _⟩

theorem share_zero2 (a1 a2 : Option Addr) (n1 c1 c2 : Nat) (w : World) (l1 : n1 ≤ 1048576) (h0 : 0 < n1) :
    Calls Try.prog 21 #[.slice a1 n1 c1, .slice a2 0 c2] w fun e w' => e = .returned (.int .i64 0) ∧ ∃ d, w' = w.drewN d := by
  go_enter Try.func21, Try.ntmps21
  go_wp2
  go_loopw [6] (fun i wr => i = .int .i64 0 ∧ Hid (∃ d, wr = w.drewN d)) (fun _ _ => 0)
  case atStart => exact ⟨rfl, 0, rfl⟩
  case round =>
    obtain ⟨rfl, hw⟩ := hrel
    go_wp2_with fail
    go_quiet (fail)
    go_wp2
    go_loopw [6] (fun i wr => i = .int .i64 0 ∧ Hid (∃ d, wr = w.drewN d)) (fun _ _ => 0)
    case atStart => exact ⟨rfl, drawn_more hw.out _⟩
    case round =>
      clear hw
      obtain ⟨rfl, hw⟩ := hrel
      go_wp2_with fail
      go_quiet (fail)
      go_wp2
      go_ret
      exact ⟨rfl, drawn_more hw.out _⟩


/-- A slice of bytes that the walk knows: nil, or a row. -/
def Sl (w : World) (a : Option Addr) (n c : Nat) (xs : List Int) : Prop :=
  (a = none ∧ n = 0 ∧ c = 0 ∧ xs = []) ∨ ∃ b o, a = some ⟨b, o, none⟩ ∧ Row w b o n c xs

theorem Sl.len {w : World} {a : Option Addr} {n c : Nat} {xs : List Int} (h : Sl w a n c xs) : xs.length = n := by
  rcases h with ⟨_, rfl, _, rfl⟩ | ⟨b, o, _, r⟩
  · rfl
  · exact r.len

theorem Sl.lim {w : World} {a : Option Addr} {n c : Nat} {xs : List Int} (h : Sl w a n c xs) : n ≤ 1048576 := by
  rcases h with ⟨_, rfl, _, rfl⟩ | ⟨b, o, _, r⟩
  · omega
  · exact r.lim

theorem Sl.drawn {w wr : World} {a : Option Addr} {n c : Nat} {xs : List Int} (h : Sl w a n c xs) (hd : ∃ d, wr = w.drewN d) : Sl wr a n c xs := by
  rcases h with h | ⟨b, o, e, r⟩
  · exact .inl h
  · exact .inr ⟨b, o, e, r.drawn hd⟩

/-- 'sharedStart': the length of the longest common prefix. -/
theorem share_any (a1 : Option Addr) (n1 c1 : Nat) (a2 : Option Addr) (n2 c2 : Nat) (xs ys : List Int) (w : World) (s1 : Sl w a1 n1 c1 xs) (s2 : Sl w a2 n2 c2 ys) :
    Calls Try.prog 21 #[.slice a1 n1 c1, .slice a2 n2 c2] w fun e w' => e = .returned (.int .i64 (lcp xs ys)) ∧ ∃ d, w' = w.drewN d := by
  have l1 := s1.lim
  have l2 := s2.lim
  rcases s1 with ⟨rfl, rfl, rfl, rfl⟩ | ⟨b1, o1, rfl, r1⟩
  · rw [lcp_nil_left]
    exact share_zero1 _ _ _ _ _ _ l2
  · rcases s2 with ⟨rfl, rfl, rfl, rfl⟩ | ⟨b2, o2, rfl, r2⟩
    · rw [lcp_nil_right]
      by_cases h0 : n1 = 0
      · subst h0
        exact share_zero1 _ _ _ _ _ _ l2
      · exact share_zero2 _ _ _ _ _ _ l1 (by omega)
    · by_cases hle : n1 ≤ n2
      · exact share_le b1 o1 n1 c1 b2 o2 n2 c2 xs ys w r1 r2 hle
      · exact share_gt b1 o1 n1 c1 b2 o2 n2 c2 xs ys w r1 r2 (by omega)

/-- 'ZZSharedStart' hands it on. -/
theorem zz_any (a1 : Option Addr) (n1 c1 : Nat) (a2 : Option Addr) (n2 c2 : Nat) (xs ys : List Int) (w : World) (s1 : Sl w a1 n1 c1 xs) (s2 : Sl w a2 n2 c2 ys) :
    Calls Try.prog 13 #[.slice a1 n1 c1, .slice a2 n2 c2] w fun e w' => e = .returned (.int .i64 (lcp xs ys)) ∧ ∃ d, w' = w.drewN d := by
  go_enter Try.func13, Try.ntmps13
  go_wp2_with (go_at_call 21; refine (share_any a1 n1 c1 a2 n2 c2 xs ys w s1 s2).mono ?_; rintro e w' ⟨rfl, hd⟩)
  go_ret
  exact ⟨rfl, hd⟩

theorem zz_at (a1 : Option Addr) (n1 c1 : Nat) (a2 : Option Addr) (n2 c2 : Nat) (xs ys : List Int) (L : Nat) (hL : Hid (lcp xs ys = L)) (w : World) (s1 : Sl w a1 n1 c1 xs) (s2 : Sl w a2 n2 c2 ys) :
    Calls Try.prog 13 #[.slice a1 n1 c1, .slice a2 n2 c2] w fun e w' => e = .returned (.int .i64 L) ∧ ∃ d, w' = w.drewN d := by
  have h : lcp xs ys = L := hL
  subst h
  exact zz_any a1 n1 c1 a2 n2 c2 xs ys w s1 s2

theorem below_drawn {B : Nat} {w W wr : World} (h : Below B w W) (hd : ∃ d, wr = W.drewN d) : Below B w wr := by
  obtain ⟨d, rfl⟩ := hd
  exact ⟨h.os, h.tape, h.output, h.size, h.block⟩

/-- What the laws ask of the longest common prefix. -/
theorem lcp_facts (xs ys : List Int) : ∃ L, Hid (lcp xs ys = L) ∧ L ≤ xs.length ∧ L ≤ ys.length ∧ Hid (∀ i, i < L → xs.getD i 0 = ys.getD i 0) ∧ Hid (L < xs.length → L < ys.length → xs.getD L 0 ≠ ys.getD L 0) :=
  ⟨_, rfl, lcp_le_left xs ys, lcp_le_right xs ys, lcp_agree xs ys, lcp_stop xs ys⟩

end Go.Proofs.Qxb6602669a.Share
