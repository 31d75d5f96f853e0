/-
  THE WALK of the law 'FnSharedStartSymmetricAndSelf' (function 5); its bound 'zzBytes_..' (14). The slices come as nil or as a row; each is copied first.
-/
import Derived.Test.Qxb6602669aNew
namespace Go.Proofs.Qxb6602669a.Law5
open Go.RowKit
open Go.Proofs.Qxb6602669a.Lcp Go.Proofs.Qxb6602669a.Share Go.Proofs.Qxb6602669a.New
set_option linter.unusedVariables false
set_option linter.unusedSimpArgs false

/-- The bound: it answers true just where both together are short. -/
theorem bytes_yes (a0 : Option Addr) (n0 c0 : Nat) (a1 : Option Addr) (n1 c1 : Nat) (w : World) (k2 : n0 + n1 ≤ 1048576) :
    Calls Try.prog 14 #[.slice a0 n0 c0, .slice a1 n1 c1] w fun e w' => e = .returned (.bool true) ∧ w = w' := by
  go_enter Try.func14, Try.ntmps14
  go_wp2
  go_ret
  exact ⟨rfl, rfl⟩
theorem bytes_no (a0 : Option Addr) (n0 c0 : Nat) (a1 : Option Addr) (n1 c1 : Nat) (w : World) (h0 : n0 ≤ maxLen) (h1 : n1 ≤ maxLen) (hk : ¬ n0 + n1 ≤ 1048576) :
    Calls Try.prog 14 #[.slice a0 n0 c0, .slice a1 n1 c1] w fun e w' => e = .returned (.bool false) ∧ w = w' := by
  unfold maxLen at h0 h1
  by_cases k0 : n0 ≤ 1048576
  · by_cases k1 : n1 ≤ 1048576
    · go_enter Try.func14, Try.ntmps14
      go_wp2
      go_ret
      exact ⟨rfl, rfl⟩
    · go_enter Try.func14, Try.ntmps14
      go_wp2
      go_ret
      exact ⟨rfl, rfl⟩
  · go_enter Try.func14, Try.ntmps14
    go_wp2
    go_ret
    exact ⟨rfl, rfl⟩

set_option maxHeartbeats 2000000 in
set_option maxRecDepth 100000 in
theorem walk_nil_nil  (w : World)  :
    Calls Try.prog 5 #[.slice none 0 0, .slice none 0 0] w fun e w' => e = .returned (.bool true) ∧ Below w.heap.size w w' := by
  obtain ⟨i0, hi, hz0, hz1, hz2⟩ := info_parts info5
  have hn0 := fun wx => run_neq_slice_nil_any (P := Try.prog) wx 40 5 none 0 0 0 0 Try.underlying40
  have S0 : Sl w none 0 0 [] := .inl ⟨rfl, rfl, rfl, rfl⟩
  have S1 : Sl w none 0 0 [] := .inl ⟨rfl, rfl, rfl, rfl⟩
  have HB : Hid (Below w.heap.size w w) := Below.refl _ _
  obtain ⟨L, HL, L0, L1, HA, HS⟩ := lcp_facts [] []
  have HL2 : Hid (lcp [] [] = L) := (lcp_comm _ _).trans HL.out
  have HL3 : Hid (lcp [] [] = 0) := (lcp_self _).trans rfl
  clear HA HS
  simp only [List.length_nil] at L0
  simp only [List.length_nil] at L1
  go_enter Try.func5, Try.ntmps5
  go_wp2_with (first
    | (go_at_call 14; refine (bytes_yes _ _ _ _ _ _ _ (by omega)).mono ?_; rintro e w' ⟨rfl, rfl⟩))
  refine (zz_at _ _ _ _ _ _ _ _ L HL _ S0 S1).mono ?_
  rintro e w' ⟨rfl, d1, rfl⟩
  go_wp2_with fail
  refine (zz_at _ _ _ _ _ _ _ _ L HL2 _ (S1.drawn ⟨d1, rfl⟩) (S0.drawn ⟨d1, rfl⟩)).mono ?_
  rintro e w' ⟨rfl, d2, rfl⟩
  go_wp2_with fail
  refine (zz_at _ _ _ _ _ _ _ _ 0 HL3 _ (S0.drawn ⟨d1 + d2, by simp⟩) (S0.drawn ⟨d1 + d2, by simp⟩)).mono ?_
  rintro e w' ⟨rfl, d3, rfl⟩
  go_wp2
  go_ret
  exact ⟨by simp, below_drawn HB.out ⟨d1 + d2 + d3, by simp⟩⟩

set_option maxHeartbeats 2000000 in
set_option maxRecDepth 100000 in
theorem walk_nil_row (x1 : Addr) (len1 cap1 : Nat) (z1 : List Int) (w : World) (k1 : len1 ≤ 524288) (hl1 : len1 ≤ z1.length) (hc1 : ∀ i, i < z1.length → w.cell? (x1.add i) = some (.int .u8 (z1.getD i 0))) (hw1 : ∀ n ∈ z1, (Lit.int .u8 n).wf = true) :
    Calls Try.prog 5 #[.slice none 0 0, .slice (some x1) len1 cap1] w fun e w' => e = .returned (.bool true) ∧ Below w.heap.size w w' := by
  obtain ⟨i0, hi, hz0, hz1, hz2⟩ := info_parts info5
  have hn0 := fun wx => run_neq_slice_nil_any (P := Try.prog) wx 40 5 none 0 0 0 0 Try.underlying40
  have hn1 := fun wx => run_neq_slice_nil_any (P := Try.prog) wx 40 5 (some x1) len1 cap1 0 0 Try.underlying40
  have hcp1 := copy_new w x1 len1 cap1 z1 hl1 hc1
  have S0 : Sl (w.alloc (.cells (byteCells (z1.take len1)) 5)) none 0 0 [] := .inl ⟨rfl, rfl, rfl, rfl⟩
  have R1 : Row (w.alloc (.cells (byteCells (z1.take len1)) 5)) w.heap.size 0 len1 len1 (z1.take len1) := row_new w len1 (z1.take len1) (by simp; omega) (by omega) (bytes_of_wf hw1 _)
  have S1 : Sl (w.alloc (.cells (byteCells (z1.take len1)) 5)) (some ⟨w.heap.size, 0, none⟩) len1 len1 (z1.take len1) := .inr ⟨_, _, rfl, R1⟩
  have HB : Hid (Below w.heap.size w (w.alloc (.cells (byteCells (z1.take len1)) 5))) := (Below.refl _ _).alloc (Nat.le_refl _) _
  have e1 : (z1.take len1).length = len1 := by simp; omega
  obtain ⟨L, HL, L0, L1, HA, HS⟩ := lcp_facts [] (z1.take len1)
  have HL2 : Hid (lcp (z1.take len1) [] = L) := (lcp_comm _ _).trans HL.out
  have HL3 : Hid (lcp [] [] = 0) := (lcp_self _).trans rfl
  clear HA HS
  simp only [List.length_nil] at L0
  rw [e1] at L1
  clear e1 hc1 hw1
  go_enter Try.func5, Try.ntmps5
  go_wp2_with (first
    | (go_at_call 14; refine (bytes_yes _ _ _ _ _ _ _ (by omega)).mono ?_; rintro e w' ⟨rfl, rfl⟩)
    | (at_make; refine wpList_make_row _ rfl _ _ 40 rfl 5 i0 (.int .u8 0) Try.underlying40 hi hz0 hz1 rfl _ _ len1 rfl rfl (by rw [hz2]; omega) (by omega) ?_))
  refine (zz_at _ _ _ _ _ _ _ _ L HL _ S0 S1).mono ?_
  rintro e w' ⟨rfl, d1, rfl⟩
  go_wp2_with fail
  refine (zz_at _ _ _ _ _ _ _ _ L HL2 _ (S1.drawn ⟨d1, rfl⟩) (S0.drawn ⟨d1, rfl⟩)).mono ?_
  rintro e w' ⟨rfl, d2, rfl⟩
  go_wp2_with fail
  refine (zz_at _ _ _ _ _ _ _ _ 0 HL3 _ (S0.drawn ⟨d1 + d2, by simp⟩) (S0.drawn ⟨d1 + d2, by simp⟩)).mono ?_
  rintro e w' ⟨rfl, d3, rfl⟩
  go_wp2
  go_ret
  exact ⟨by simp, below_drawn HB.out ⟨d1 + d2 + d3, by simp⟩⟩

set_option maxHeartbeats 2000000 in
set_option maxRecDepth 100000 in
theorem walk_row_nil (x0 : Addr) (len0 cap0 : Nat) (z0 : List Int) (w : World) (k0 : len0 ≤ 524288) (hl0 : len0 ≤ z0.length) (hc0 : ∀ i, i < z0.length → w.cell? (x0.add i) = some (.int .u8 (z0.getD i 0))) (hw0 : ∀ n ∈ z0, (Lit.int .u8 n).wf = true) :
    Calls Try.prog 5 #[.slice (some x0) len0 cap0, .slice none 0 0] w fun e w' => e = .returned (.bool true) ∧ Below w.heap.size w w' := by
  obtain ⟨i0, hi, hz0, hz1, hz2⟩ := info_parts info5
  have hn0 := fun wx => run_neq_slice_nil_any (P := Try.prog) wx 40 5 (some x0) len0 cap0 0 0 Try.underlying40
  have hn1 := fun wx => run_neq_slice_nil_any (P := Try.prog) wx 40 5 none 0 0 0 0 Try.underlying40
  have hcp0 := copy_new w x0 len0 cap0 z0 hl0 hc0
  have R0 : Row (w.alloc (.cells (byteCells (z0.take len0)) 5)) w.heap.size 0 len0 len0 (z0.take len0) := row_new w len0 (z0.take len0) (by simp; omega) (by omega) (bytes_of_wf hw0 _)
  have S0 : Sl (w.alloc (.cells (byteCells (z0.take len0)) 5)) (some ⟨w.heap.size, 0, none⟩) len0 len0 (z0.take len0) := .inr ⟨_, _, rfl, R0⟩
  have S1 : Sl (w.alloc (.cells (byteCells (z0.take len0)) 5)) none 0 0 [] := .inl ⟨rfl, rfl, rfl, rfl⟩
  have HB : Hid (Below w.heap.size w (w.alloc (.cells (byteCells (z0.take len0)) 5))) := (Below.refl _ _).alloc (Nat.le_refl _) _
  have e0 : (z0.take len0).length = len0 := by simp; omega
  obtain ⟨L, HL, L0, L1, HA, HS⟩ := lcp_facts (z0.take len0) []
  have HL2 : Hid (lcp [] (z0.take len0) = L) := (lcp_comm _ _).trans HL.out
  have HL3 : Hid (lcp (z0.take len0) (z0.take len0) = len0) := (lcp_self _).trans e0
  clear HA HS
  rw [e0] at L0
  simp only [List.length_nil] at L1
  clear e0 hc0 hw0
  go_enter Try.func5, Try.ntmps5
  go_wp2_with (first
    | (go_at_call 14; refine (bytes_yes _ _ _ _ _ _ _ (by omega)).mono ?_; rintro e w' ⟨rfl, rfl⟩)
    | (at_make; refine wpList_make_row _ rfl _ _ 40 rfl 5 i0 (.int .u8 0) Try.underlying40 hi hz0 hz1 rfl _ _ len0 rfl rfl (by rw [hz2]; omega) (by omega) ?_))
  refine (zz_at _ _ _ _ _ _ _ _ L HL _ S0 S1).mono ?_
  rintro e w' ⟨rfl, d1, rfl⟩
  go_wp2_with fail
  refine (zz_at _ _ _ _ _ _ _ _ L HL2 _ (S1.drawn ⟨d1, rfl⟩) (S0.drawn ⟨d1, rfl⟩)).mono ?_
  rintro e w' ⟨rfl, d2, rfl⟩
  go_wp2_with fail
  refine (zz_at _ _ _ _ _ _ _ _ len0 HL3 _ (S0.drawn ⟨d1 + d2, by simp⟩) (S0.drawn ⟨d1 + d2, by simp⟩)).mono ?_
  rintro e w' ⟨rfl, d3, rfl⟩
  go_wp2
  go_ret
  exact ⟨by simp, below_drawn HB.out ⟨d1 + d2 + d3, by simp⟩⟩

set_option maxHeartbeats 2000000 in
set_option maxRecDepth 100000 in
theorem walk_row_row (x0 : Addr) (len0 cap0 : Nat) (z0 : List Int) (x1 : Addr) (len1 cap1 : Nat) (z1 : List Int) (w : World) (k0 : len0 ≤ 524288) (hl0 : len0 ≤ z0.length) (hc0 : ∀ i, i < z0.length → w.cell? (x0.add i) = some (.int .u8 (z0.getD i 0))) (hw0 : ∀ n ∈ z0, (Lit.int .u8 n).wf = true) (k1 : len1 ≤ 524288) (hl1 : len1 ≤ z1.length) (hc1 : ∀ i, i < z1.length → w.cell? (x1.add i) = some (.int .u8 (z1.getD i 0))) (hw1 : ∀ n ∈ z1, (Lit.int .u8 n).wf = true) :
    Calls Try.prog 5 #[.slice (some x0) len0 cap0, .slice (some x1) len1 cap1] w fun e w' => e = .returned (.bool true) ∧ Below w.heap.size w w' := by
  obtain ⟨i0, hi, hz0, hz1, hz2⟩ := info_parts info5
  have hn0 := fun wx => run_neq_slice_nil_any (P := Try.prog) wx 40 5 (some x0) len0 cap0 0 0 Try.underlying40
  have hn1 := fun wx => run_neq_slice_nil_any (P := Try.prog) wx 40 5 (some x1) len1 cap1 0 0 Try.underlying40
  have hcp0 := copy_new w x0 len0 cap0 z0 hl0 hc0
  have hcp1 := copy_new (w.alloc (.cells (byteCells (z0.take len0)) 5)) x1 len1 cap1 z1 hl1 (fun i hi => by rw [World.cell?_alloc_lt w _ _ (World.block_lt_of_cell? w _ (hc1 i hi))]; exact hc1 i hi)
  rw [show (w.alloc (.cells (byteCells (z0.take len0)) 5)).heap.size = w.heap.size + 1 by simp] at hcp1
  have R0 : Row ((w.alloc (.cells (byteCells (z0.take len0)) 5)).alloc (.cells (byteCells (z1.take len1)) 5)) w.heap.size 0 len0 len0 (z0.take len0) := row_alloc (row_new w len0 (z0.take len0) (by simp; omega) (by omega) (bytes_of_wf hw0 _)) _
  have S0 : Sl ((w.alloc (.cells (byteCells (z0.take len0)) 5)).alloc (.cells (byteCells (z1.take len1)) 5)) (some ⟨w.heap.size, 0, none⟩) len0 len0 (z0.take len0) := .inr ⟨_, _, rfl, R0⟩
  have R1 := row_new (w.alloc (.cells (byteCells (z0.take len0)) 5)) len1 (z1.take len1) (by simp; omega) (by omega) (bytes_of_wf hw1 _)
  rw [show (w.alloc (.cells (byteCells (z0.take len0)) 5)).heap.size = w.heap.size + 1 by simp] at R1
  have S1 : Sl ((w.alloc (.cells (byteCells (z0.take len0)) 5)).alloc (.cells (byteCells (z1.take len1)) 5)) (some ⟨w.heap.size + 1, 0, none⟩) len1 len1 (z1.take len1) := .inr ⟨_, _, rfl, R1⟩
  have HB : Hid (Below w.heap.size w ((w.alloc (.cells (byteCells (z0.take len0)) 5)).alloc (.cells (byteCells (z1.take len1)) 5))) := ((Below.refl _ _).alloc (Nat.le_refl _) _).alloc (by simp) _
  have e0 : (z0.take len0).length = len0 := by simp; omega
  have e1 : (z1.take len1).length = len1 := by simp; omega
  obtain ⟨L, HL, L0, L1, HA, HS⟩ := lcp_facts (z0.take len0) (z1.take len1)
  have HL2 : Hid (lcp (z1.take len1) (z0.take len0) = L) := (lcp_comm _ _).trans HL.out
  have HL3 : Hid (lcp (z0.take len0) (z0.take len0) = len0) := (lcp_self _).trans e0
  clear HA HS
  rw [e0] at L0
  rw [e1] at L1
  clear e0 hc0 hw0
  clear e1 hc1 hw1
  go_enter Try.func5, Try.ntmps5
  go_wp2_with (first
    | (go_at_call 14; refine (bytes_yes _ _ _ _ _ _ _ (by omega)).mono ?_; rintro e w' ⟨rfl, rfl⟩)
    | (at_make; refine wpList_make_row _ rfl _ _ 40 rfl 5 i0 (.int .u8 0) Try.underlying40 hi hz0 hz1 rfl _ _ len0 rfl rfl (by rw [hz2]; omega) (by omega) ?_)
    | (at_make; refine wpList_make_row _ rfl _ _ 40 rfl 5 i0 (.int .u8 0) Try.underlying40 hi hz0 hz1 rfl _ _ len1 rfl rfl (by rw [hz2]; omega) (by omega) ?_))
  refine (zz_at _ _ _ _ _ _ _ _ L HL _ S0 S1).mono ?_
  rintro e w' ⟨rfl, d1, rfl⟩
  go_wp2_with fail
  refine (zz_at _ _ _ _ _ _ _ _ L HL2 _ (S1.drawn ⟨d1, rfl⟩) (S0.drawn ⟨d1, rfl⟩)).mono ?_
  rintro e w' ⟨rfl, d2, rfl⟩
  go_wp2_with fail
  refine (zz_at _ _ _ _ _ _ _ _ len0 HL3 _ (S0.drawn ⟨d1 + d2, by simp⟩) (S0.drawn ⟨d1 + d2, by simp⟩)).mono ?_
  rintro e w' ⟨rfl, d3, rfl⟩
  go_wp2
  go_ret
  exact ⟨by simp, below_drawn HB.out ⟨d1 + d2 + d3, by simp⟩⟩

set_option maxHeartbeats 1000000 in
set_option maxRecDepth 100000 in
theorem walk (a0 : Option Addr) (len0 cap0 : Nat) (z0 : List Int) (a1 : Option Addr) (len1 cap1 : Nat) (z1 : List Int) (w : World) (w0 : IsRow .u8 w a0 len0 cap0 z0) (w1 : IsRow .u8 w a1 len1 cap1 z1) :
    Calls Try.prog 5 #[.slice a0 len0 cap0, .slice a1 len1 cap1] w fun e w' => e = .returned (.bool true) ∧ Below w.heap.size w w' := by
  have m0 := w0.le
  have m1 := w1.le
  by_cases hs : len0 + len1 ≤ 1048576
  · by_cases k0 : len0 ≤ 524288
    · by_cases k1 : len1 ≤ 524288
      · rcases w0 with ⟨rfl, rfl, rfl, rfl⟩ | ⟨x0, rfl, hl0, hm0, hz0, hc0, hw0⟩
        · rcases w1 with ⟨rfl, rfl, rfl, rfl⟩ | ⟨x1, rfl, hl1, hm1, hz1, hc1, hw1⟩
          · exact walk_nil_nil w
          · exact walk_nil_row x1 len1 cap1 z1 w k1 (by omega) hc1 hw1
        · rcases w1 with ⟨rfl, rfl, rfl, rfl⟩ | ⟨x1, rfl, hl1, hm1, hz1, hc1, hw1⟩
          · exact walk_row_nil x0 len0 cap0 z0 w k0 (by omega) hc0 hw0
          · exact walk_row_row x0 len0 cap0 z0 x1 len1 cap1 z1 w k0 (by omega) hc0 hw0 k1 (by omega) hc1 hw1
      · clear w0 w1
        unfold maxLen at m0 m1
        go_enter Try.func5, Try.ntmps5
        go_wp2_with (go_at_call 14; refine (bytes_yes _ _ _ _ _ _ _ hs).mono ?_; rintro e w' ⟨rfl, rfl⟩)
        go_ret
        exact ⟨rfl, Below.refl _ _⟩
    · clear w0 w1
      unfold maxLen at m0 m1
      go_enter Try.func5, Try.ntmps5
      go_wp2_with (go_at_call 14; refine (bytes_yes _ _ _ _ _ _ _ hs).mono ?_; rintro e w' ⟨rfl, rfl⟩)
      go_ret
      exact ⟨rfl, Below.refl _ _⟩
  · clear w0 w1
    go_enter Try.func5, Try.ntmps5
    go_wp2_with (go_at_call 14; refine (bytes_no _ _ _ _ _ _ _ m0 m1 hs).mono ?_; rintro e w' ⟨rfl, rfl⟩)
    go_ret
    exact ⟨rfl, Below.refl _ _⟩

end Go.Proofs.Qxb6602669a.Law5
