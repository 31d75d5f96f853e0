/-
  THE WALK of the law 'FnSharedStartIsLongestCommonPrefix' (function 4); its bound 'zzBytes_..' (12). The slices come as nil or as a row; each is copied first.
-/
import Derived.Test.Qxb6602669aNew
namespace Go.Proofs.Qxb6602669a.Law4
open Go.RowKit
open Go.Proofs.Qxb6602669a.Lcp Go.Proofs.Qxb6602669a.Share Go.Proofs.Qxb6602669a.New
set_option linter.unusedVariables false
set_option linter.unusedSimpArgs false

/-- The bound: it answers true just where both together are short. -/
theorem bytes_yes (a0 : Option Addr) (n0 c0 : Nat) (a1 : Option Addr) (n1 c1 : Nat) (w : World) (k2 : n0 + n1 ≤ 1048576) :
    Calls Try.prog 12 #[.slice a0 n0 c0, .slice a1 n1 c1] w fun e w' => e = .returned (.bool true) ∧ w = w' := by
  go_enter Try.func12, Try.ntmps12
  go_wp2
  go_ret
  exact ⟨rfl, rfl⟩
theorem bytes_no (a0 : Option Addr) (n0 c0 : Nat) (a1 : Option Addr) (n1 c1 : Nat) (w : World) (h0 : n0 ≤ maxLen) (h1 : n1 ≤ maxLen) (hk : ¬ n0 + n1 ≤ 1048576) :
    Calls Try.prog 12 #[.slice a0 n0 c0, .slice a1 n1 c1] w fun e w' => e = .returned (.bool false) ∧ w = w' := by
  unfold maxLen at h0 h1
  by_cases k0 : n0 ≤ 1048576
  · by_cases k1 : n1 ≤ 1048576
    · go_enter Try.func12, Try.ntmps12
      go_wp2
      go_ret
      exact ⟨rfl, rfl⟩
    · go_enter Try.func12, Try.ntmps12
      go_wp2
      go_ret
      exact ⟨rfl, rfl⟩
  · go_enter Try.func12, Try.ntmps12
    go_wp2
    go_ret
    exact ⟨rfl, rfl⟩

set_option maxHeartbeats 2000000 in
set_option maxRecDepth 100000 in
theorem walk_nil_nil  (w : World)  :
    Calls Try.prog 4 #[.slice none 0 0, .slice none 0 0] w fun e w' => e = .returned (.bool true) ∧ Below w.heap.size w w' := by
  obtain ⟨i0, hi, hz0, hz1, hz2⟩ := info_parts info5
  have hn0 := fun wx => run_neq_slice_nil_any (P := Try.prog) wx 40 5 none 0 0 0 0 Try.underlying40
  have S0 : Sl w none 0 0 [] := .inl ⟨rfl, rfl, rfl, rfl⟩
  have S1 : Sl w none 0 0 [] := .inl ⟨rfl, rfl, rfl, rfl⟩
  have HB : Hid (Below w.heap.size w w) := Below.refl _ _
  obtain ⟨L, HL, L0, L1, HA, HS⟩ := lcp_facts [] []
  simp only [List.length_nil] at L0
  simp only [List.length_nil] at L1
  obtain rfl : L = 0 := by omega
  go_enter Try.func4, Try.ntmps4
  go_wp2_with (first
    | (go_at_call 12; refine (bytes_yes _ _ _ _ _ _ _ (by omega)).mono ?_; rintro e w' ⟨rfl, rfl⟩)
    | (go_at_call 13; refine (zz_at _ _ _ _ _ _ _ _ 0 HL _ S0 S1).mono ?_; rintro e w' ⟨rfl, d, rfl⟩))
  go_loopw [9] (fun i wr => i = .int .i64 0 ∧ Hid (∃ d, wr = w.drewN d)) (fun _ _ => 0)
  case atStart => exact ⟨rfl, ⟨d, rfl⟩⟩
  case round =>
    obtain ⟨rfl, hw⟩ := hrel
    go_wp2_with fail
    go_quiet (fail)
    go_wp2
    go_ret
    exact ⟨rfl, below_drawn HB.out (drawn_more hw.out _)⟩

set_option maxHeartbeats 2000000 in
set_option maxRecDepth 100000 in
theorem walk_nil_row (x1 : Addr) (len1 cap1 : Nat) (z1 : List Int) (w : World) (k1 : len1 ≤ 524288) (hl1 : len1 ≤ z1.length) (hc1 : ∀ i, i < z1.length → w.cell? (x1.add i) = some (.int .u8 (z1.getD i 0))) (hw1 : ∀ n ∈ z1, (Lit.int .u8 n).wf = true) :
    Calls Try.prog 4 #[.slice none 0 0, .slice (some x1) len1 cap1] w fun e w' => e = .returned (.bool true) ∧ Below w.heap.size w w' := by
  obtain ⟨i0, hi, hz0, hz1, hz2⟩ := info_parts info5
  have hn0 := fun wx => run_neq_slice_nil_any (P := Try.prog) wx 40 5 none 0 0 0 0 Try.underlying40
  have hn1 := fun wx => run_neq_slice_nil_any (P := Try.prog) wx 40 5 (some x1) len1 cap1 0 0 Try.underlying40
  have hcp1 := copy_new w x1 len1 cap1 z1 hl1 hc1
  have S0 : Sl (w.alloc (.cells (byteCells (z1.take len1)) 5)) none 0 0 [] := .inl ⟨rfl, rfl, rfl, rfl⟩
  have R1 : Row (w.alloc (.cells (byteCells (z1.take len1)) 5)) w.heap.size 0 len1 len1 (z1.take len1) := row_new w len1 (z1.take len1) (by simp; omega) (by omega) (bytes_of_wf hw1 _)
  have S1 : Sl (w.alloc (.cells (byteCells (z1.take len1)) 5)) (some ⟨w.heap.size, 0, none⟩) len1 len1 (z1.take len1) := .inr ⟨_, _, rfl, R1⟩
  have HB : Hid (Below w.heap.size w (w.alloc (.cells (byteCells (z1.take len1)) 5))) := (Below.refl _ _).alloc (Nat.le_refl _) _
  have e1 : (z1.take len1).length = len1 := by simp; omega
  obtain ⟨L, HL, L0, L1, HA, HS⟩ := lcp_facts [] (z1.take len1)
  simp only [List.length_nil] at L0
  rw [e1] at L1 HS
  obtain rfl : L = 0 := by omega
  clear e1 hc1 hw1
  go_enter Try.func4, Try.ntmps4
  go_wp2_with (first
    | (go_at_call 12; refine (bytes_yes _ _ _ _ _ _ _ (by omega)).mono ?_; rintro e w' ⟨rfl, rfl⟩)
    | (at_make; refine wpList_make_row _ rfl _ _ 40 rfl 5 i0 (.int .u8 0) Try.underlying40 hi hz0 hz1 rfl _ _ len1 rfl rfl (by rw [hz2]; omega) (by omega) ?_)
    | (go_at_call 13; refine (zz_at _ _ _ _ _ _ _ _ 0 HL _ S0 S1).mono ?_; rintro e w' ⟨rfl, d, rfl⟩))
  go_loopw [9] (fun i wr => i = .int .i64 0 ∧ Hid (∃ d, wr = (w.alloc (.cells (byteCells (z1.take len1)) 5)).drewN d)) (fun _ _ => 0)
  case atStart => exact ⟨rfl, ⟨d, rfl⟩⟩
  case round =>
    obtain ⟨rfl, hw⟩ := hrel
    go_wp2_with fail
    go_quiet (fail)
    go_wp2
    go_ret
    exact ⟨rfl, below_drawn HB.out (drawn_more hw.out _)⟩

set_option maxHeartbeats 2000000 in
set_option maxRecDepth 100000 in
theorem walk_row_nil (x0 : Addr) (len0 cap0 : Nat) (z0 : List Int) (w : World) (k0 : len0 ≤ 524288) (hl0 : len0 ≤ z0.length) (hc0 : ∀ i, i < z0.length → w.cell? (x0.add i) = some (.int .u8 (z0.getD i 0))) (hw0 : ∀ n ∈ z0, (Lit.int .u8 n).wf = true) :
    Calls Try.prog 4 #[.slice (some x0) len0 cap0, .slice none 0 0] w fun e w' => e = .returned (.bool true) ∧ Below w.heap.size w w' := by
  obtain ⟨i0, hi, hz0, hz1, hz2⟩ := info_parts info5
  have hn0 := fun wx => run_neq_slice_nil_any (P := Try.prog) wx 40 5 (some x0) len0 cap0 0 0 Try.underlying40
  have hn1 := fun wx => run_neq_slice_nil_any (P := Try.prog) wx 40 5 none 0 0 0 0 Try.underlying40
  have hcp0 := copy_new w x0 len0 cap0 z0 hl0 hc0
  have R0 : Row (w.alloc (.cells (byteCells (z0.take len0)) 5)) w.heap.size 0 len0 len0 (z0.take len0) := row_new w len0 (z0.take len0) (by simp; omega) (by omega) (bytes_of_wf hw0 _)
  have S0 : Sl (w.alloc (.cells (byteCells (z0.take len0)) 5)) (some ⟨w.heap.size, 0, none⟩) len0 len0 (z0.take len0) := .inr ⟨_, _, rfl, R0⟩
  have S1 : Sl (w.alloc (.cells (byteCells (z0.take len0)) 5)) none 0 0 [] := .inl ⟨rfl, rfl, rfl, rfl⟩
  have HB : Hid (Below w.heap.size w (w.alloc (.cells (byteCells (z0.take len0)) 5))) := (Below.refl _ _).alloc (Nat.le_refl _) _
  have e0 : (z0.take len0).length = len0 := by simp; omega
  obtain ⟨L, HL, L0, L1, HA, HS⟩ := lcp_facts (z0.take len0) []
  rw [e0] at L0 HS
  simp only [List.length_nil] at L1
  obtain rfl : L = 0 := by omega
  clear e0 hc0 hw0
  rcases (Classical.em (0 < len0)) with hmin | hmin
  · go_enter Try.func4, Try.ntmps4
    go_wp2_with (first
      | (go_at_call 12; refine (bytes_yes _ _ _ _ _ _ _ (by omega)).mono ?_; rintro e w' ⟨rfl, rfl⟩)
      | (at_make; refine wpList_make_row _ rfl _ _ 40 rfl 5 i0 (.int .u8 0) Try.underlying40 hi hz0 hz1 rfl _ _ len0 rfl rfl (by rw [hz2]; omega) (by omega) ?_)
      | (go_at_call 13; refine (zz_at _ _ _ _ _ _ _ _ 0 HL _ S0 S1).mono ?_; rintro e w' ⟨rfl, d, rfl⟩))
    go_loopw [9] (fun i wr => i = .int .i64 0 ∧ Hid (∃ d, wr = (w.alloc (.cells (byteCells (z0.take len0)) 5)).drewN d)) (fun _ _ => 0)
    case atStart => exact ⟨rfl, ⟨d, rfl⟩⟩
    case round =>
      obtain ⟨rfl, hw⟩ := hrel
      go_wp2_with fail
      go_quiet (fail)
      go_wp2
      go_ret
      exact ⟨rfl, below_drawn HB.out (drawn_more hw.out _)⟩
  · go_enter Try.func4, Try.ntmps4
    go_wp2_with (first
      | (go_at_call 12; refine (bytes_yes _ _ _ _ _ _ _ (by omega)).mono ?_; rintro e w' ⟨rfl, rfl⟩)
      | (at_make; refine wpList_make_row _ rfl _ _ 40 rfl 5 i0 (.int .u8 0) Try.underlying40 hi hz0 hz1 rfl _ _ len0 rfl rfl (by rw [hz2]; omega) (by omega) ?_)
      | (go_at_call 13; refine (zz_at _ _ _ _ _ _ _ _ 0 HL _ S0 S1).mono ?_; rintro e w' ⟨rfl, d, rfl⟩))
    go_loopw [9] (fun i wr => i = .int .i64 0 ∧ Hid (∃ d, wr = (w.alloc (.cells (byteCells (z0.take len0)) 5)).drewN d)) (fun _ _ => 0)
    case atStart => exact ⟨rfl, ⟨d, rfl⟩⟩
    case round =>
      obtain ⟨rfl, hw⟩ := hrel
      have hb : ((0 : Int) == (len0 : Int)) = true := by rw [beq_iff_eq]; omega
      go_wp2_with fail
      go_quiet (fail)
      go_wp2
      go_ret
      exact ⟨rfl, below_drawn HB.out (drawn_more hw.out _)⟩

set_option maxHeartbeats 2000000 in
set_option maxRecDepth 100000 in
theorem walk_row_row (x0 : Addr) (len0 cap0 : Nat) (z0 : List Int) (x1 : Addr) (len1 cap1 : Nat) (z1 : List Int) (w : World) (k0 : len0 ≤ 524288) (hl0 : len0 ≤ z0.length) (hc0 : ∀ i, i < z0.length → w.cell? (x0.add i) = some (.int .u8 (z0.getD i 0))) (hw0 : ∀ n ∈ z0, (Lit.int .u8 n).wf = true) (k1 : len1 ≤ 524288) (hl1 : len1 ≤ z1.length) (hc1 : ∀ i, i < z1.length → w.cell? (x1.add i) = some (.int .u8 (z1.getD i 0))) (hw1 : ∀ n ∈ z1, (Lit.int .u8 n).wf = true) :
    Calls Try.prog 4 #[.slice (some x0) len0 cap0, .slice (some x1) len1 cap1] w fun e w' => e = .returned (.bool true) ∧ Below w.heap.size w w' := by
  obtain ⟨i0, hi, hz0, hz1, hz2⟩ := info_parts info5
  have hn0 := fun wx => run_neq_slice_nil_any (P := Try.prog) wx 40 5 (some x0) len0 cap0 0 0 Try.underlying40
  have hn1 := fun wx => run_neq_slice_nil_any (P := Try.prog) wx 40 5 (some x1) len1 cap1 0 0 Try.underlying40
  have hcp0 := copy_new w x0 len0 cap0 z0 hl0 hc0
  have hcp1 := copy_new (w.alloc (.cells (byteCells (z0.take len0)) 5)) x1 len1 cap1 z1 hl1 (fun i hi => by rw [World.cell?_alloc_lt w _ _ (World.block_lt_of_cell? w _ (hc1 i hi))]; exact hc1 i hi)
  rw [show (w.alloc (.cells (byteCells (z0.take len0)) 5)).heap.size = w.heap.size + 1 by simp] at hcp1
  have R0 : Row ((w.alloc (.cells (byteCells (z0.take len0)) 5)).alloc (.cells (byteCells (z1.take len1)) 5)) w.heap.size 0 len0 len0 (z0.take len0) := row_alloc (row_new w len0 (z0.take len0) (by simp; omega) (by omega) (bytes_of_wf hw0 _)) _
  have S0 : Sl ((w.alloc (.cells (byteCells (z0.take len0)) 5)).alloc (.cells (byteCells (z1.take len1)) 5)) (some ⟨w.heap.size, 0, none⟩) len0 len0 (z0.take len0) := .inr ⟨_, _, rfl, R0⟩
  have R1 := row_new (w.alloc (.cells (byteCells (z0.take len0)) 5)) len1 (z1.take len1) (by simp; omega) (by omega) (bytes_of_wf hw1 _)
  rw [show (w.alloc (.cells (byteCells (z0.take len0)) 5)).heap.size = w.heap.size + 1 by simp] at R1
  have S1 : Sl ((w.alloc (.cells (byteCells (z0.take len0)) 5)).alloc (.cells (byteCells (z1.take len1)) 5)) (some ⟨w.heap.size + 1, 0, none⟩) len1 len1 (z1.take len1) := .inr ⟨_, _, rfl, R1⟩
  have HB : Hid (Below w.heap.size w ((w.alloc (.cells (byteCells (z0.take len0)) 5)).alloc (.cells (byteCells (z1.take len1)) 5))) := ((Below.refl _ _).alloc (Nat.le_refl _) _).alloc (by simp) _
  have e0 : (z0.take len0).length = len0 := by simp; omega
  have e1 : (z1.take len1).length = len1 := by simp; omega
  obtain ⟨L, HL, L0, L1, HA, HS⟩ := lcp_facts (z0.take len0) (z1.take len1)
  rw [e0] at L0 HS
  rw [e1] at L1 HS
  clear e0 hc0 hw0
  clear e1 hc1 hw1
  rcases (Classical.em (len1 < len0)) with hmin | hmin
  · go_enter Try.func4, Try.ntmps4
    go_wp2_with (first
      | (go_at_call 12; refine (bytes_yes _ _ _ _ _ _ _ (by omega)).mono ?_; rintro e w' ⟨rfl, rfl⟩)
      | (at_make; refine wpList_make_row _ rfl _ _ 40 rfl 5 i0 (.int .u8 0) Try.underlying40 hi hz0 hz1 rfl _ _ len0 rfl rfl (by rw [hz2]; omega) (by omega) ?_)
      | (at_make; refine wpList_make_row _ rfl _ _ 40 rfl 5 i0 (.int .u8 0) Try.underlying40 hi hz0 hz1 rfl _ _ len1 rfl rfl (by rw [hz2]; omega) (by omega) ?_)
      | (go_at_call 13; refine (zz_at _ _ _ _ _ _ _ _ L HL _ S0 S1).mono ?_; rintro e w' ⟨rfl, d, rfl⟩))
    go_loopw [9] (fun i wr => ∃ k : Nat, k ≤ L ∧ i = .int .i64 k ∧ Hid (∃ d, wr = ((w.alloc (.cells (byteCells (z0.take len0)) 5)).alloc (.cells (byteCells (z1.take len1)) 5)).drewN d)) (fun i _ => L - (intOf i).toNat)
    case atStart => exact ⟨0, Nat.zero_le _, rfl, ⟨d, rfl⟩⟩
    case round =>
      obtain ⟨k, hk, rfl, hw⟩ := hrel
      by_cases hlt : k < L
      · have g0 := (R0.drawn hw.out).cells k (by omega)
        have g1 := (R1.drawn hw.out).cells k (by omega)
        rw [← HA.out k hlt] at g1
        simp only [Nat.zero_add] at g0 g1
        generalize (z0.take len0).getD k 0 = x at g0 g1
        have hj0 : (k : Int) < (len0 : Int) := by omega
        have hj1 : (k : Int) < (len1 : Int) := by omega
        go_wp2_with fail
        go_quiet (fail)
        go_wp2
        go_roundw
        case rel => exact ⟨k + 1, by omega, by go_num, drawn_more hw.out _⟩
        case measure => simp [intOf]; omega
      · obtain rfl : k = L := by omega
        by_cases hm : k = len1
        · have hb : ((k : Int) == ((len1 : Nat) : Int)) = true := by rw [beq_iff_eq]; omega
          have Hm : Hid _ := hm
          clear hm
          go_wp2_with fail
          go_quiet (fail)
          go_wp2
          go_ret
          exact ⟨rfl, below_drawn HB.out (drawn_more hw.out _)⟩
        · have hb : ((k : Int) == ((len1 : Nat) : Int)) = false := by rw [beq_eq_false_iff_ne]; omega
          have g0 := (R0.drawn hw.out).cells k (by omega)
          have g1 := (R1.drawn hw.out).cells k (by omega)
          have hne := HS.out (by omega) (by omega)
          simp only [Nat.zero_add] at g0 g1
          generalize (z0.take len0).getD k 0 = x at g0 hne
          generalize (z1.take len1).getD k 0 = y at g1 hne
          have hx : (x != y) = true := by simpa using hne
          clear hne
          have hj0 : (k : Int) < (len0 : Int) := by omega
          have hj1 : (k : Int) < (len1 : Int) := by omega
          go_wp2_with fail
          go_quiet (fail)
          go_wp2
          go_ret
          exact ⟨rfl, below_drawn HB.out (drawn_more hw.out _)⟩
  · go_enter Try.func4, Try.ntmps4
    go_wp2_with (first
      | (go_at_call 12; refine (bytes_yes _ _ _ _ _ _ _ (by omega)).mono ?_; rintro e w' ⟨rfl, rfl⟩)
      | (at_make; refine wpList_make_row _ rfl _ _ 40 rfl 5 i0 (.int .u8 0) Try.underlying40 hi hz0 hz1 rfl _ _ len0 rfl rfl (by rw [hz2]; omega) (by omega) ?_)
      | (at_make; refine wpList_make_row _ rfl _ _ 40 rfl 5 i0 (.int .u8 0) Try.underlying40 hi hz0 hz1 rfl _ _ len1 rfl rfl (by rw [hz2]; omega) (by omega) ?_)
      | (go_at_call 13; refine (zz_at _ _ _ _ _ _ _ _ L HL _ S0 S1).mono ?_; rintro e w' ⟨rfl, d, rfl⟩))
    go_loopw [9] (fun i wr => ∃ k : Nat, k ≤ L ∧ i = .int .i64 k ∧ Hid (∃ d, wr = ((w.alloc (.cells (byteCells (z0.take len0)) 5)).alloc (.cells (byteCells (z1.take len1)) 5)).drewN d)) (fun i _ => L - (intOf i).toNat)
    case atStart => exact ⟨0, Nat.zero_le _, rfl, ⟨d, rfl⟩⟩
    case round =>
      obtain ⟨k, hk, rfl, hw⟩ := hrel
      by_cases hlt : k < L
      · have g0 := (R0.drawn hw.out).cells k (by omega)
        have g1 := (R1.drawn hw.out).cells k (by omega)
        rw [← HA.out k hlt] at g1
        simp only [Nat.zero_add] at g0 g1
        generalize (z0.take len0).getD k 0 = x at g0 g1
        have hj0 : (k : Int) < (len0 : Int) := by omega
        have hj1 : (k : Int) < (len1 : Int) := by omega
        go_wp2_with fail
        go_quiet (fail)
        go_wp2
        go_roundw
        case rel => exact ⟨k + 1, by omega, by go_num, drawn_more hw.out _⟩
        case measure => simp [intOf]; omega
      · obtain rfl : k = L := by omega
        by_cases hm : k = len0
        · have hb : ((k : Int) == ((len0 : Nat) : Int)) = true := by rw [beq_iff_eq]; omega
          have Hm : Hid _ := hm
          clear hm
          go_wp2_with fail
          go_quiet (fail)
          go_wp2
          go_ret
          exact ⟨rfl, below_drawn HB.out (drawn_more hw.out _)⟩
        · have hb : ((k : Int) == ((len0 : Nat) : Int)) = false := by rw [beq_eq_false_iff_ne]; omega
          have g0 := (R0.drawn hw.out).cells k (by omega)
          have g1 := (R1.drawn hw.out).cells k (by omega)
          have hne := HS.out (by omega) (by omega)
          simp only [Nat.zero_add] at g0 g1
          generalize (z0.take len0).getD k 0 = x at g0 hne
          generalize (z1.take len1).getD k 0 = y at g1 hne
          have hx : (x != y) = true := by simpa using hne
          clear hne
          have hj0 : (k : Int) < (len0 : Int) := by omega
          have hj1 : (k : Int) < (len1 : Int) := by omega
          go_wp2_with fail
          go_quiet (fail)
          go_wp2
          go_ret
          exact ⟨rfl, below_drawn HB.out (drawn_more hw.out _)⟩

set_option maxHeartbeats 1000000 in
set_option maxRecDepth 100000 in
theorem walk (a0 : Option Addr) (len0 cap0 : Nat) (z0 : List Int) (a1 : Option Addr) (len1 cap1 : Nat) (z1 : List Int) (w : World) (w0 : IsRow .u8 w a0 len0 cap0 z0) (w1 : IsRow .u8 w a1 len1 cap1 z1) :
    Calls Try.prog 4 #[.slice a0 len0 cap0, .slice a1 len1 cap1] w fun e w' => e = .returned (.bool true) ∧ Below w.heap.size w w' := by
  have m0 := w0.le
  have m1 := w1.le
  by_cases hs : len0 + len1 ≤ 1048576
  · by_cases k0 : len0 ≤ 524288
    · by_cases k1 : len1 ≤ 524288
      · rcases w0 with ⟨rfl, rfl, rfl, rfl⟩ | ⟨x0, rfl, hl0, hm0, hz0, hc0, hw0⟩
        · rcases w1 with ⟨rfl, rfl, rfl, rfl⟩ | ⟨x1, rfl, hl1, hm1, hz1, hc1, hw1⟩
          · exact walk_nil_nil w
          · exact walk_nil_row x1 len1 cap1 z1 w k1 (by omega) hc1 hw1
        · rcases w1 with ⟨rfl, rfl, rfl, rfl⟩ | ⟨x1, rfl, hl1, hm1, hz1, hc1, hw1⟩
          · exact walk_row_nil x0 len0 cap0 z0 w k0 (by omega) hc0 hw0
          · exact walk_row_row x0 len0 cap0 z0 x1 len1 cap1 z1 w k0 (by omega) hc0 hw0 k1 (by omega) hc1 hw1
      · clear w0 w1
        unfold maxLen at m0 m1
        go_enter Try.func4, Try.ntmps4
        go_wp2_with (go_at_call 12; refine (bytes_yes _ _ _ _ _ _ _ hs).mono ?_; rintro e w' ⟨rfl, rfl⟩)
        go_ret
        exact ⟨rfl, Below.refl _ _⟩
    · clear w0 w1
      unfold maxLen at m0 m1
      go_enter Try.func4, Try.ntmps4
      go_wp2_with (go_at_call 12; refine (bytes_yes _ _ _ _ _ _ _ hs).mono ?_; rintro e w' ⟨rfl, rfl⟩)
      go_ret
      exact ⟨rfl, Below.refl _ _⟩
  · clear w0 w1
    go_enter Try.func4, Try.ntmps4
    go_wp2_with (go_at_call 12; refine (bytes_no _ _ _ _ _ _ _ m0 m1 hs).mono ?_; rintro e w' ⟨rfl, rfl⟩)
    go_ret
    exact ⟨rfl, Below.refl _ _⟩

end Go.Proofs.Qxb6602669a.Law4
