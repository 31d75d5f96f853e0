/-
  THE WALK of the law 'FnSharedStartCommonPrefixAdds' (function 6); its bound 'zzBytes_..' (15). The slices come as nil or as a row; each is copied first.
-/
import Derived.Test.Qxb6602669aGrow
namespace Go.Proofs.Qxb6602669a.Law6
open Go.RowKit
open Go.Proofs.Qxb6602669a.Lcp Go.Proofs.Qxb6602669a.Share Go.Proofs.Qxb6602669a.New Go.Proofs.Qxb6602669a.Grow
set_option linter.unusedVariables false
set_option linter.unusedSimpArgs false

/-- The bound: it answers true just where the three together are short. -/
theorem bytes_yes (a0 : Option Addr) (n0 c0 : Nat) (a1 : Option Addr) (n1 c1 : Nat) (a2 : Option Addr) (n2 c2 : Nat) (w : World) (k2 : n0 + n1 + n2 ≤ 1048576) :
    Calls Try.prog 15 #[.slice a0 n0 c0, .slice a1 n1 c1, .slice a2 n2 c2] w fun e w' => e = .returned (.bool true) ∧ w = w' := by
  go_enter Try.func15, Try.ntmps15
  go_wp2
  go_ret
  exact ⟨rfl, rfl⟩
theorem bytes_no (a0 : Option Addr) (n0 c0 : Nat) (a1 : Option Addr) (n1 c1 : Nat) (a2 : Option Addr) (n2 c2 : Nat) (w : World) (h0 : n0 ≤ maxLen) (h1 : n1 ≤ maxLen) (h2 : n2 ≤ maxLen) (hk : ¬ n0 + n1 + n2 ≤ 1048576) :
    Calls Try.prog 15 #[.slice a0 n0 c0, .slice a1 n1 c1, .slice a2 n2 c2] w fun e w' => e = .returned (.bool false) ∧ w = w' := by
  unfold maxLen at h0 h1 h2
  by_cases k0 : n0 ≤ 1048576
  · by_cases k1 : n1 ≤ 1048576
    · by_cases k01 : n0 + n1 ≤ 1048576
      · by_cases k2 : n2 ≤ 1048576
        · go_enter Try.func15, Try.ntmps15
          go_wp2
          go_ret
          exact ⟨rfl, rfl⟩
        · go_enter Try.func15, Try.ntmps15
          go_wp2
          go_ret
          exact ⟨rfl, rfl⟩
      · go_enter Try.func15, Try.ntmps15
        go_wp2
        go_ret
        exact ⟨rfl, rfl⟩
    · go_enter Try.func15, Try.ntmps15
      go_wp2
      go_ret
      exact ⟨rfl, rfl⟩
  · go_enter Try.func15, Try.ntmps15
    go_wp2
    go_ret
    exact ⟨rfl, rfl⟩

set_option maxHeartbeats 2000000 in
set_option maxRecDepth 100000 in
theorem walk_nil_nil (a0 : Option Addr) (len0 cap0 : Nat) (ps : List Int) (w : World) (k0 : len0 ≤ 262144) (hp : Src w a0 len0 cap0 ps) (hbp : Bytes ps) :
    Calls Try.prog 6 #[.slice a0 len0 cap0, .slice none 0 0, .slice none 0 0] w fun e w' => e = .returned (.bool true) ∧ Below w.heap.size w w' := by
  obtain ⟨i0, hi, hz0, hz1, hz2⟩ := info_parts info5
  obtain ⟨xs1, X1⟩ : ∃ xs1 : List Int, Hid (xs1 = []) := ⟨[], rfl⟩
  obtain ⟨xs2, X2⟩ : ∃ xs2 : List Int, Hid (xs2 = []) := ⟨[], rfl⟩
  have hn1 := fun wx => run_neq_slice_nil_any (P := Try.prog) wx 40 5 none 0 0 0 0 Try.underlying40
  have S1 : Sl w none 0 0 xs1 := .inl ⟨rfl, rfl, rfl, X1.out⟩
  have S2 : Sl w none 0 0 xs2 := .inl ⟨rfl, rfl, rfl, X2.out⟩
  have HB : Hid (Below w.heap.size w w) := Below.refl _ _
  have SP : Src w a0 len0 cap0 ps := src_below hp HB.out (Nat.le_refl _)
  obtain ⟨L, HL, L1, L2, HA, HS⟩ := lcp_facts xs1 xs2
  have HL2 : Hid (lcp (ps ++ xs1) (ps ++ xs2) = len0 + L) := show _ = _ by rw [lcp_append, hp.1, HL.out]
  clear HA HS hp
  rw [show xs1.length = 0 by rw [X1.out]; rfl] at L1
  rw [show xs2.length = 0 by rw [X2.out]; rfl] at L2
  have B1 : Bytes xs1 := fun n hn => by rw [X1.out] at hn; simp at hn
  have B2 : Bytes xs2 := fun n hn => by rw [X2.out] at hn; simp at hn
  go_enter Try.func6, Try.ntmps6
  go_wp2_with (first
    | (go_at_call 15; refine (bytes_yes _ _ _ _ _ _ _ _ _ _ (by omega)).mono ?_; rintro e w' ⟨rfl, rfl⟩)
    | (at_make; refine wpList_make_own _ rfl _ _ 40 rfl _ 5 i0 (.int .u8 0) 1 Try.underlying40 hi hz0 hz1 _ _ _ len0 rfl rfl (by omega) (by rw [hz2]; omega) (by unfold maxLen; omega) (Nat.le_refl _) ?_))
  intro w1 hown1 hgr1
  clear hn1
  have hb1 : Below (w.heap.size) w w1 := (Below.refl _ _).grown hgr1 (Nat.le_of_eq (Eq.refl w.heap.size).symm) (fun k e => by cases e)
  have SP1 := src_below SP hb1 (Nat.le_of_eq (Eq.refl w.heap.size))
  go_wp2_with (at_builtin; refine wpList_append_fits_any _ rfl _ _ 40 rfl _ 5 i0 1 Try.underlying40 hi hz1 _ 0 len0 [] rfl hown1 a0 len0 cap0 (ps.map (Value.int .u8)) rfl (by rw [List.length_map, SP1.1, Nat.mul_one]) SP1.2.1 SP1.2.2 (ints_oneCell _ _) (by omega) ?_)
  intro w2 hown2 hgr2
  try simp only [Nat.zero_add, List.nil_append] at hown2
  have hb2 := hb1.grown hgr2 (Nat.le_trans (Nat.le_of_eq (Eq.refl w.heap.size).symm) hb1.size) (fun k e => by cases e; exact Nat.le_refl _)
  have SX := src_below (src_of_sl S1) hb2 (Nat.le_of_eq (Eq.refl w.heap.size))
  go_wp2_with (at_builtin; refine wpList_append_fits_any _ rfl _ _ 40 rfl _ 5 i0 1 Try.underlying40 hi hz1 _ len0 len0 (ps.map (Value.int .u8)) rfl hown2 none 0 0 (xs1.map (Value.int .u8)) rfl (by rw [List.length_map, SX.1, Nat.mul_one]) SX.2.1 SX.2.2 (ints_oneCell _ _) (by omega) ?_)
  intro w3 hown3 hgr3
  rw [← List.map_append] at hown3
  have hb3 := hb2.grown hgr3 (Nat.le_trans (Nat.le_of_eq (Eq.refl w.heap.size).symm) hb2.size) (fun k e => by cases e; exact Nat.le_refl _)
  have hg2 := Nat.le_trans (Nat.le_of_eq (Eq.refl w.heap.size).symm) hb3.size
  go_wp2_with (at_make; refine wpList_make_own _ rfl _ _ 40 rfl _ 5 i0 (.int .u8 0) 1 Try.underlying40 hi hz0 hz1 _ _ _ len0 rfl rfl (by omega) (by rw [hz2]; omega) (by unfold maxLen; omega) (Nat.le_refl _) ?_)
  intro w4 hown4 hgr4
  have hb4 := hb3.grown hgr4 hg2 (fun k e => by cases e)
  have hc4 := (Below.refl _ w3).grown hgr4 (Nat.le_refl _) (fun k e => by cases e)
  have SP4 := src_below SP hb4 (Nat.le_of_eq (Eq.refl w.heap.size))
  go_wp2_with (at_builtin; refine wpList_append_fits_any _ rfl _ _ 40 rfl _ 5 i0 1 Try.underlying40 hi hz1 _ 0 len0 [] rfl hown4 a0 len0 cap0 (ps.map (Value.int .u8)) rfl (by rw [List.length_map, SP4.1, Nat.mul_one]) SP4.2.1 SP4.2.2 (ints_oneCell _ _) (by omega) ?_)
  intro w5 hown5 hgr5
  try simp only [Nat.zero_add, List.nil_append] at hown5
  have hb5 := hb4.grown hgr5 (Nat.le_trans (Nat.le_of_eq (Eq.refl w.heap.size).symm) hb4.size) (fun k e => by cases e; exact hg2)
  have hc5 := hc4.grown hgr5 hc4.size (fun k e => by cases e; exact Nat.le_refl _)
  have SY := src_below (src_of_sl S2) hb5 (Nat.le_of_eq (Eq.refl w.heap.size))
  go_wp2_with (at_builtin; refine wpList_append_fits_any _ rfl _ _ 40 rfl _ 5 i0 1 Try.underlying40 hi hz1 _ len0 len0 (ps.map (Value.int .u8)) rfl hown5 none 0 0 (xs2.map (Value.int .u8)) rfl (by rw [List.length_map, SY.1, Nat.mul_one]) SY.2.1 SY.2.2 (ints_oneCell _ _) (by omega) ?_)
  intro w6 hown6 hgr6
  rw [← List.map_append] at hown6
  have hb6 := hb5.grown hgr6 (Nat.le_trans (Nat.le_of_eq (Eq.refl w.heap.size).symm) hb5.size) (fun k e => by cases e; exact hg2)
  have hc6 := hc5.grown hgr6 hc5.size (fun k e => by cases e; exact Nat.le_refl _)
  have RX : Row w6 _ 0 _ _ (ps ++ xs1) := row_below (row_of_owns hown3 (by omega) (bytes_append hbp B1)) hc6 (Nat.le_refl _)
  have RY : Row w6 _ 0 _ _ (ps ++ xs2) := row_of_owns hown6 (by omega) (bytes_append hbp B2)
  have S1' := sl_below S1 hb6 (Nat.le_of_eq (Eq.refl w.heap.size))
  have S2' := sl_below S2 hb6 (Nat.le_of_eq (Eq.refl w.heap.size))
  have HB6 : Hid (Below w.heap.size w w6) := HB.out.trans (hb6.mono (Nat.le_trans HB.out.size (Nat.le_of_eq (Eq.refl w.heap.size))))
  clear hown1 hown2 hown3 hown4 hown5 hown6 hgr1 hgr2 hgr3 hgr4 hgr5 hgr6 hb1 hb2 hb3 hb4 hb5 hb6 hc4 hc5 hc6 SP SP1 SX SP4 SY S1 S2
  go_wp2_with fail
  refine (zz_at _ _ _ _ _ _ _ _ (len0 + L) HL2 _ (.inr ⟨_, _, rfl, RX⟩) (.inr ⟨_, _, rfl, RY⟩)).mono ?_
  rintro e w' ⟨rfl, d1, rfl⟩
  go_wp2_with fail
  refine (zz_at _ _ _ _ _ _ _ _ L HL _ (S1'.drawn ⟨d1, rfl⟩) (S2'.drawn ⟨d1, rfl⟩)).mono ?_
  rintro e w' ⟨rfl, d2, rfl⟩
  go_wp2
  go_ret
  exact ⟨by simp, below_drawn HB6.out ⟨d1 + d2, by simp⟩⟩

set_option maxHeartbeats 2000000 in
set_option maxRecDepth 100000 in
theorem walk_nil_row (a0 : Option Addr) (len0 cap0 : Nat) (ps : List Int) (x2 : Addr) (len2 cap2 : Nat) (z2 : List Int) (w : World) (k0 : len0 ≤ 262144) (hp : Src w a0 len0 cap0 ps) (hbp : Bytes ps) (k2 : len2 ≤ 262144) (hl2 : len2 ≤ z2.length) (hc2 : ∀ i, i < z2.length → w.cell? (x2.add i) = some (.int .u8 (z2.getD i 0))) (hw2 : ∀ n ∈ z2, (Lit.int .u8 n).wf = true) :
    Calls Try.prog 6 #[.slice a0 len0 cap0, .slice none 0 0, .slice (some x2) len2 cap2] w fun e w' => e = .returned (.bool true) ∧ Below w.heap.size w w' := by
  obtain ⟨i0, hi, hz0, hz1, hz2⟩ := info_parts info5
  obtain ⟨xs1, X1⟩ : ∃ xs1 : List Int, Hid (xs1 = []) := ⟨[], rfl⟩
  have hn1 := fun wx => run_neq_slice_nil_any (P := Try.prog) wx 40 5 none 0 0 0 0 Try.underlying40
  have hn2 := fun wx => run_neq_slice_nil_any (P := Try.prog) wx 40 5 (some x2) len2 cap2 0 0 Try.underlying40
  have hcp2 := copy_new w x2 len2 cap2 z2 hl2 hc2
  have S1 : Sl (w.alloc (.cells (byteCells (z2.take len2)) 5)) none 0 0 xs1 := .inl ⟨rfl, rfl, rfl, X1.out⟩
  have S2 : Sl (w.alloc (.cells (byteCells (z2.take len2)) 5)) (some ⟨w.heap.size, 0, none⟩) len2 len2 (z2.take len2) := .inr ⟨_, _, rfl, row_new w len2 (z2.take len2) (by simp; omega) (by omega) (bytes_of_wf hw2 _)⟩
  have HB : Hid (Below w.heap.size w (w.alloc (.cells (byteCells (z2.take len2)) 5))) := (Below.refl _ _).alloc (Nat.le_refl _) _
  have SP : Src (w.alloc (.cells (byteCells (z2.take len2)) 5)) a0 len0 cap0 ps := src_below hp HB.out (Nat.le_refl _)
  obtain ⟨L, HL, L1, L2, HA, HS⟩ := lcp_facts xs1 (z2.take len2)
  have HL2 : Hid (lcp (ps ++ xs1) (ps ++ (z2.take len2)) = len0 + L) := show _ = _ by rw [lcp_append, hp.1, HL.out]
  clear HA HS hp
  have e2 : (z2.take len2).length = len2 := by simp; omega
  rw [show xs1.length = 0 by rw [X1.out]; rfl] at L1
  rw [e2] at L2
  have B1 : Bytes xs1 := fun n hn => by rw [X1.out] at hn; simp at hn
  have B2 : Bytes (z2.take len2) := bytes_of_wf hw2 _
  clear e2 hc2 hw2
  generalize z2.take len2 = xs2 at *
  go_enter Try.func6, Try.ntmps6
  go_wp2_with (first
    | (go_at_call 15; refine (bytes_yes _ _ _ _ _ _ _ _ _ _ (by omega)).mono ?_; rintro e w' ⟨rfl, rfl⟩)
    | (at_make; refine wpList_make_own _ rfl _ _ 40 rfl _ 5 i0 (.int .u8 0) 1 Try.underlying40 hi hz0 hz1 _ _ _ len0 rfl rfl (by omega) (by rw [hz2]; omega) (by unfold maxLen; omega) (Nat.le_refl _) ?_)
    | (at_make; refine wpList_make_row _ rfl _ _ 40 rfl 5 i0 (.int .u8 0) Try.underlying40 hi hz0 hz1 rfl _ _ len2 rfl rfl (by rw [hz2]; omega) (by omega) ?_))
  intro w1 hown1 hgr1
  clear hn1 hcp2 hn2
  have HZ : Hid ((w.alloc (.cells (byteCells xs2) 5)).heap.size = w.heap.size + 1) := (show _ = _ by simp)
  have hb1 : Below (w.heap.size + 1) (w.alloc (.cells (byteCells xs2) 5)) w1 := (Below.refl _ _).grown hgr1 (Nat.le_of_eq HZ.out.symm) (fun k e => by cases e)
  have SP1 := src_below SP hb1 (Nat.le_of_eq HZ.out)
  go_wp2_with (at_builtin; refine wpList_append_fits_any _ rfl _ _ 40 rfl _ 5 i0 1 Try.underlying40 hi hz1 _ 0 len0 [] rfl hown1 a0 len0 cap0 (ps.map (Value.int .u8)) rfl (by rw [List.length_map, SP1.1, Nat.mul_one]) SP1.2.1 SP1.2.2 (ints_oneCell _ _) (by omega) ?_)
  intro w2 hown2 hgr2
  try simp only [Nat.zero_add, List.nil_append] at hown2
  have hb2 := hb1.grown hgr2 (Nat.le_trans (Nat.le_of_eq HZ.out.symm) hb1.size) (fun k e => by cases e; exact Nat.le_refl _)
  have SX := src_below (src_of_sl S1) hb2 (Nat.le_of_eq HZ.out)
  go_wp2_with (at_builtin; refine wpList_append_fits_any _ rfl _ _ 40 rfl _ 5 i0 1 Try.underlying40 hi hz1 _ len0 len0 (ps.map (Value.int .u8)) rfl hown2 none 0 0 (xs1.map (Value.int .u8)) rfl (by rw [List.length_map, SX.1, Nat.mul_one]) SX.2.1 SX.2.2 (ints_oneCell _ _) (by omega) ?_)
  intro w3 hown3 hgr3
  rw [← List.map_append] at hown3
  have hb3 := hb2.grown hgr3 (Nat.le_trans (Nat.le_of_eq HZ.out.symm) hb2.size) (fun k e => by cases e; exact Nat.le_refl _)
  have hg2 := Nat.le_trans (Nat.le_of_eq HZ.out.symm) hb3.size
  go_wp2_with (at_make; refine wpList_make_own _ rfl _ _ 40 rfl _ 5 i0 (.int .u8 0) 1 Try.underlying40 hi hz0 hz1 _ _ _ (len0 + len2) rfl rfl (by omega) (by rw [hz2]; omega) (by unfold maxLen; omega) (Nat.le_refl _) ?_)
  intro w4 hown4 hgr4
  have hb4 := hb3.grown hgr4 hg2 (fun k e => by cases e)
  have hc4 := (Below.refl _ w3).grown hgr4 (Nat.le_refl _) (fun k e => by cases e)
  have SP4 := src_below SP hb4 (Nat.le_of_eq HZ.out)
  go_wp2_with (at_builtin; refine wpList_append_fits_any _ rfl _ _ 40 rfl _ 5 i0 1 Try.underlying40 hi hz1 _ 0 (len0 + len2) [] rfl hown4 a0 len0 cap0 (ps.map (Value.int .u8)) rfl (by rw [List.length_map, SP4.1, Nat.mul_one]) SP4.2.1 SP4.2.2 (ints_oneCell _ _) (by omega) ?_)
  intro w5 hown5 hgr5
  try simp only [Nat.zero_add, List.nil_append] at hown5
  have hb5 := hb4.grown hgr5 (Nat.le_trans (Nat.le_of_eq HZ.out.symm) hb4.size) (fun k e => by cases e; exact hg2)
  have hc5 := hc4.grown hgr5 hc4.size (fun k e => by cases e; exact Nat.le_refl _)
  have SY := src_below (src_of_sl S2) hb5 (Nat.le_of_eq HZ.out)
  go_wp2_with (at_builtin; refine wpList_append_fits_any _ rfl _ _ 40 rfl _ 5 i0 1 Try.underlying40 hi hz1 _ len0 (len0 + len2) (ps.map (Value.int .u8)) rfl hown5 (some ⟨w.heap.size, 0, none⟩) len2 len2 (xs2.map (Value.int .u8)) rfl (by rw [List.length_map, SY.1, Nat.mul_one]) SY.2.1 SY.2.2 (ints_oneCell _ _) (by omega) ?_)
  intro w6 hown6 hgr6
  rw [← List.map_append] at hown6
  have hb6 := hb5.grown hgr6 (Nat.le_trans (Nat.le_of_eq HZ.out.symm) hb5.size) (fun k e => by cases e; exact hg2)
  have hc6 := hc5.grown hgr6 hc5.size (fun k e => by cases e; exact Nat.le_refl _)
  have RX : Row w6 _ 0 _ _ (ps ++ xs1) := row_below (row_of_owns hown3 (by omega) (bytes_append hbp B1)) hc6 (Nat.le_refl _)
  have RY : Row w6 _ 0 _ _ (ps ++ xs2) := row_of_owns hown6 (by omega) (bytes_append hbp B2)
  have S1' := sl_below S1 hb6 (Nat.le_of_eq HZ.out)
  have S2' := sl_below S2 hb6 (Nat.le_of_eq HZ.out)
  have HB6 : Hid (Below w.heap.size w w6) := HB.out.trans (hb6.mono (Nat.le_trans HB.out.size (Nat.le_of_eq HZ.out)))
  clear hown1 hown2 hown3 hown4 hown5 hown6 hgr1 hgr2 hgr3 hgr4 hgr5 hgr6 hb1 hb2 hb3 hb4 hb5 hb6 hc4 hc5 hc6 SP SP1 SX SP4 SY S1 S2
  go_wp2_with fail
  refine (zz_at _ _ _ _ _ _ _ _ (len0 + L) HL2 _ (.inr ⟨_, _, rfl, RX⟩) (.inr ⟨_, _, rfl, RY⟩)).mono ?_
  rintro e w' ⟨rfl, d1, rfl⟩
  go_wp2_with fail
  refine (zz_at _ _ _ _ _ _ _ _ L HL _ (S1'.drawn ⟨d1, rfl⟩) (S2'.drawn ⟨d1, rfl⟩)).mono ?_
  rintro e w' ⟨rfl, d2, rfl⟩
  go_wp2
  go_ret
  exact ⟨by simp, below_drawn HB6.out ⟨d1 + d2, by simp⟩⟩

set_option maxHeartbeats 2000000 in
set_option maxRecDepth 100000 in
theorem walk_row_nil (a0 : Option Addr) (len0 cap0 : Nat) (ps : List Int) (x1 : Addr) (len1 cap1 : Nat) (z1 : List Int) (w : World) (k0 : len0 ≤ 262144) (hp : Src w a0 len0 cap0 ps) (hbp : Bytes ps) (k1 : len1 ≤ 262144) (hl1 : len1 ≤ z1.length) (hc1 : ∀ i, i < z1.length → w.cell? (x1.add i) = some (.int .u8 (z1.getD i 0))) (hw1 : ∀ n ∈ z1, (Lit.int .u8 n).wf = true) :
    Calls Try.prog 6 #[.slice a0 len0 cap0, .slice (some x1) len1 cap1, .slice none 0 0] w fun e w' => e = .returned (.bool true) ∧ Below w.heap.size w w' := by
  obtain ⟨i0, hi, hz0, hz1, hz2⟩ := info_parts info5
  obtain ⟨xs2, X2⟩ : ∃ xs2 : List Int, Hid (xs2 = []) := ⟨[], rfl⟩
  have hn1 := fun wx => run_neq_slice_nil_any (P := Try.prog) wx 40 5 (some x1) len1 cap1 0 0 Try.underlying40
  have hn2 := fun wx => run_neq_slice_nil_any (P := Try.prog) wx 40 5 none 0 0 0 0 Try.underlying40
  have hcp1 := copy_new w x1 len1 cap1 z1 hl1 hc1
  have S1 : Sl (w.alloc (.cells (byteCells (z1.take len1)) 5)) (some ⟨w.heap.size, 0, none⟩) len1 len1 (z1.take len1) := .inr ⟨_, _, rfl, row_new w len1 (z1.take len1) (by simp; omega) (by omega) (bytes_of_wf hw1 _)⟩
  have S2 : Sl (w.alloc (.cells (byteCells (z1.take len1)) 5)) none 0 0 xs2 := .inl ⟨rfl, rfl, rfl, X2.out⟩
  have HB : Hid (Below w.heap.size w (w.alloc (.cells (byteCells (z1.take len1)) 5))) := (Below.refl _ _).alloc (Nat.le_refl _) _
  have SP : Src (w.alloc (.cells (byteCells (z1.take len1)) 5)) a0 len0 cap0 ps := src_below hp HB.out (Nat.le_refl _)
  obtain ⟨L, HL, L1, L2, HA, HS⟩ := lcp_facts (z1.take len1) xs2
  have HL2 : Hid (lcp (ps ++ (z1.take len1)) (ps ++ xs2) = len0 + L) := show _ = _ by rw [lcp_append, hp.1, HL.out]
  clear HA HS hp
  have e1 : (z1.take len1).length = len1 := by simp; omega
  rw [e1] at L1
  rw [show xs2.length = 0 by rw [X2.out]; rfl] at L2
  have B1 : Bytes (z1.take len1) := bytes_of_wf hw1 _
  have B2 : Bytes xs2 := fun n hn => by rw [X2.out] at hn; simp at hn
  clear e1 hc1 hw1
  generalize z1.take len1 = xs1 at *
  go_enter Try.func6, Try.ntmps6
  go_wp2_with (first
    | (go_at_call 15; refine (bytes_yes _ _ _ _ _ _ _ _ _ _ (by omega)).mono ?_; rintro e w' ⟨rfl, rfl⟩)
    | (at_make; refine wpList_make_own _ rfl _ _ 40 rfl _ 5 i0 (.int .u8 0) 1 Try.underlying40 hi hz0 hz1 _ _ _ (len0 + len1) rfl rfl (by omega) (by rw [hz2]; omega) (by unfold maxLen; omega) (Nat.le_refl _) ?_)
    | (at_make; refine wpList_make_row _ rfl _ _ 40 rfl 5 i0 (.int .u8 0) Try.underlying40 hi hz0 hz1 rfl _ _ len1 rfl rfl (by rw [hz2]; omega) (by omega) ?_))
  intro w1 hown1 hgr1
  clear hn1 hcp1 hn2
  have HZ : Hid ((w.alloc (.cells (byteCells xs1) 5)).heap.size = w.heap.size + 1) := (show _ = _ by simp)
  have hb1 : Below (w.heap.size + 1) (w.alloc (.cells (byteCells xs1) 5)) w1 := (Below.refl _ _).grown hgr1 (Nat.le_of_eq HZ.out.symm) (fun k e => by cases e)
  have SP1 := src_below SP hb1 (Nat.le_of_eq HZ.out)
  go_wp2_with (at_builtin; refine wpList_append_fits_any _ rfl _ _ 40 rfl _ 5 i0 1 Try.underlying40 hi hz1 _ 0 (len0 + len1) [] rfl hown1 a0 len0 cap0 (ps.map (Value.int .u8)) rfl (by rw [List.length_map, SP1.1, Nat.mul_one]) SP1.2.1 SP1.2.2 (ints_oneCell _ _) (by omega) ?_)
  intro w2 hown2 hgr2
  try simp only [Nat.zero_add, List.nil_append] at hown2
  have hb2 := hb1.grown hgr2 (Nat.le_trans (Nat.le_of_eq HZ.out.symm) hb1.size) (fun k e => by cases e; exact Nat.le_refl _)
  have SX := src_below (src_of_sl S1) hb2 (Nat.le_of_eq HZ.out)
  go_wp2_with (at_builtin; refine wpList_append_fits_any _ rfl _ _ 40 rfl _ 5 i0 1 Try.underlying40 hi hz1 _ len0 (len0 + len1) (ps.map (Value.int .u8)) rfl hown2 (some ⟨w.heap.size, 0, none⟩) len1 len1 (xs1.map (Value.int .u8)) rfl (by rw [List.length_map, SX.1, Nat.mul_one]) SX.2.1 SX.2.2 (ints_oneCell _ _) (by omega) ?_)
  intro w3 hown3 hgr3
  rw [← List.map_append] at hown3
  have hb3 := hb2.grown hgr3 (Nat.le_trans (Nat.le_of_eq HZ.out.symm) hb2.size) (fun k e => by cases e; exact Nat.le_refl _)
  have hg2 := Nat.le_trans (Nat.le_of_eq HZ.out.symm) hb3.size
  go_wp2_with (at_make; refine wpList_make_own _ rfl _ _ 40 rfl _ 5 i0 (.int .u8 0) 1 Try.underlying40 hi hz0 hz1 _ _ _ len0 rfl rfl (by omega) (by rw [hz2]; omega) (by unfold maxLen; omega) (Nat.le_refl _) ?_)
  intro w4 hown4 hgr4
  have hb4 := hb3.grown hgr4 hg2 (fun k e => by cases e)
  have hc4 := (Below.refl _ w3).grown hgr4 (Nat.le_refl _) (fun k e => by cases e)
  have SP4 := src_below SP hb4 (Nat.le_of_eq HZ.out)
  go_wp2_with (at_builtin; refine wpList_append_fits_any _ rfl _ _ 40 rfl _ 5 i0 1 Try.underlying40 hi hz1 _ 0 len0 [] rfl hown4 a0 len0 cap0 (ps.map (Value.int .u8)) rfl (by rw [List.length_map, SP4.1, Nat.mul_one]) SP4.2.1 SP4.2.2 (ints_oneCell _ _) (by omega) ?_)
  intro w5 hown5 hgr5
  try simp only [Nat.zero_add, List.nil_append] at hown5
  have hb5 := hb4.grown hgr5 (Nat.le_trans (Nat.le_of_eq HZ.out.symm) hb4.size) (fun k e => by cases e; exact hg2)
  have hc5 := hc4.grown hgr5 hc4.size (fun k e => by cases e; exact Nat.le_refl _)
  have SY := src_below (src_of_sl S2) hb5 (Nat.le_of_eq HZ.out)
  go_wp2_with (at_builtin; refine wpList_append_fits_any _ rfl _ _ 40 rfl _ 5 i0 1 Try.underlying40 hi hz1 _ len0 len0 (ps.map (Value.int .u8)) rfl hown5 none 0 0 (xs2.map (Value.int .u8)) rfl (by rw [List.length_map, SY.1, Nat.mul_one]) SY.2.1 SY.2.2 (ints_oneCell _ _) (by omega) ?_)
  intro w6 hown6 hgr6
  rw [← List.map_append] at hown6
  have hb6 := hb5.grown hgr6 (Nat.le_trans (Nat.le_of_eq HZ.out.symm) hb5.size) (fun k e => by cases e; exact hg2)
  have hc6 := hc5.grown hgr6 hc5.size (fun k e => by cases e; exact Nat.le_refl _)
  have RX : Row w6 _ 0 _ _ (ps ++ xs1) := row_below (row_of_owns hown3 (by omega) (bytes_append hbp B1)) hc6 (Nat.le_refl _)
  have RY : Row w6 _ 0 _ _ (ps ++ xs2) := row_of_owns hown6 (by omega) (bytes_append hbp B2)
  have S1' := sl_below S1 hb6 (Nat.le_of_eq HZ.out)
  have S2' := sl_below S2 hb6 (Nat.le_of_eq HZ.out)
  have HB6 : Hid (Below w.heap.size w w6) := HB.out.trans (hb6.mono (Nat.le_trans HB.out.size (Nat.le_of_eq HZ.out)))
  clear hown1 hown2 hown3 hown4 hown5 hown6 hgr1 hgr2 hgr3 hgr4 hgr5 hgr6 hb1 hb2 hb3 hb4 hb5 hb6 hc4 hc5 hc6 SP SP1 SX SP4 SY S1 S2
  go_wp2_with fail
  refine (zz_at _ _ _ _ _ _ _ _ (len0 + L) HL2 _ (.inr ⟨_, _, rfl, RX⟩) (.inr ⟨_, _, rfl, RY⟩)).mono ?_
  rintro e w' ⟨rfl, d1, rfl⟩
  go_wp2_with fail
  refine (zz_at _ _ _ _ _ _ _ _ L HL _ (S1'.drawn ⟨d1, rfl⟩) (S2'.drawn ⟨d1, rfl⟩)).mono ?_
  rintro e w' ⟨rfl, d2, rfl⟩
  go_wp2
  go_ret
  exact ⟨by simp, below_drawn HB6.out ⟨d1 + d2, by simp⟩⟩

set_option maxHeartbeats 2000000 in
set_option maxRecDepth 100000 in
theorem walk_row_row (a0 : Option Addr) (len0 cap0 : Nat) (ps : List Int) (x1 : Addr) (len1 cap1 : Nat) (z1 : List Int) (x2 : Addr) (len2 cap2 : Nat) (z2 : List Int) (w : World) (k0 : len0 ≤ 262144) (hp : Src w a0 len0 cap0 ps) (hbp : Bytes ps) (k1 : len1 ≤ 262144) (hl1 : len1 ≤ z1.length) (hc1 : ∀ i, i < z1.length → w.cell? (x1.add i) = some (.int .u8 (z1.getD i 0))) (hw1 : ∀ n ∈ z1, (Lit.int .u8 n).wf = true) (k2 : len2 ≤ 262144) (hl2 : len2 ≤ z2.length) (hc2 : ∀ i, i < z2.length → w.cell? (x2.add i) = some (.int .u8 (z2.getD i 0))) (hw2 : ∀ n ∈ z2, (Lit.int .u8 n).wf = true) :
    Calls Try.prog 6 #[.slice a0 len0 cap0, .slice (some x1) len1 cap1, .slice (some x2) len2 cap2] w fun e w' => e = .returned (.bool true) ∧ Below w.heap.size w w' := by
  obtain ⟨i0, hi, hz0, hz1, hz2⟩ := info_parts info5
  have hn1 := fun wx => run_neq_slice_nil_any (P := Try.prog) wx 40 5 (some x1) len1 cap1 0 0 Try.underlying40
  have hn2 := fun wx => run_neq_slice_nil_any (P := Try.prog) wx 40 5 (some x2) len2 cap2 0 0 Try.underlying40
  have hcp1 := copy_new w x1 len1 cap1 z1 hl1 hc1
  have hcp2 := copy_new (w.alloc (.cells (byteCells (z1.take len1)) 5)) x2 len2 cap2 z2 hl2 (fun i hi => by rw [World.cell?_alloc_lt w _ _ (World.block_lt_of_cell? w _ (hc2 i hi))]; exact hc2 i hi)
  rw [show (w.alloc (.cells (byteCells (z1.take len1)) 5)).heap.size = w.heap.size + 1 by simp] at hcp2
  have S1 : Sl ((w.alloc (.cells (byteCells (z1.take len1)) 5)).alloc (.cells (byteCells (z2.take len2)) 5)) (some ⟨w.heap.size, 0, none⟩) len1 len1 (z1.take len1) := .inr ⟨_, _, rfl, row_alloc (row_new w len1 (z1.take len1) (by simp; omega) (by omega) (bytes_of_wf hw1 _)) _⟩
  have R2 := row_new (w.alloc (.cells (byteCells (z1.take len1)) 5)) len2 (z2.take len2) (by simp; omega) (by omega) (bytes_of_wf hw2 _)
  rw [show (w.alloc (.cells (byteCells (z1.take len1)) 5)).heap.size = w.heap.size + 1 by simp] at R2
  have S2 : Sl ((w.alloc (.cells (byteCells (z1.take len1)) 5)).alloc (.cells (byteCells (z2.take len2)) 5)) (some ⟨w.heap.size + 1, 0, none⟩) len2 len2 (z2.take len2) := .inr ⟨_, _, rfl, R2⟩
  clear R2
  have HB : Hid (Below w.heap.size w ((w.alloc (.cells (byteCells (z1.take len1)) 5)).alloc (.cells (byteCells (z2.take len2)) 5))) := ((Below.refl _ _).alloc (Nat.le_refl _) _).alloc (by simp) _
  have SP : Src ((w.alloc (.cells (byteCells (z1.take len1)) 5)).alloc (.cells (byteCells (z2.take len2)) 5)) a0 len0 cap0 ps := src_below hp HB.out (Nat.le_refl _)
  obtain ⟨L, HL, L1, L2, HA, HS⟩ := lcp_facts (z1.take len1) (z2.take len2)
  have HL2 : Hid (lcp (ps ++ (z1.take len1)) (ps ++ (z2.take len2)) = len0 + L) := show _ = _ by rw [lcp_append, hp.1, HL.out]
  clear HA HS hp
  have e1 : (z1.take len1).length = len1 := by simp; omega
  have e2 : (z2.take len2).length = len2 := by simp; omega
  rw [e1] at L1
  rw [e2] at L2
  have B1 : Bytes (z1.take len1) := bytes_of_wf hw1 _
  have B2 : Bytes (z2.take len2) := bytes_of_wf hw2 _
  clear e1 hc1 hw1
  clear e2 hc2 hw2
  generalize z1.take len1 = xs1 at *
  generalize z2.take len2 = xs2 at *
  go_enter Try.func6, Try.ntmps6
  go_wp2_with (first
    | (go_at_call 15; refine (bytes_yes _ _ _ _ _ _ _ _ _ _ (by omega)).mono ?_; rintro e w' ⟨rfl, rfl⟩)
    | (at_make; refine wpList_make_own _ rfl _ _ 40 rfl _ 5 i0 (.int .u8 0) 1 Try.underlying40 hi hz0 hz1 _ _ _ (len0 + len1) rfl rfl (by omega) (by rw [hz2]; omega) (by unfold maxLen; omega) (Nat.le_refl _) ?_)
    | (at_make; refine wpList_make_row _ rfl _ _ 40 rfl 5 i0 (.int .u8 0) Try.underlying40 hi hz0 hz1 rfl _ _ len1 rfl rfl (by rw [hz2]; omega) (by omega) ?_)
    | (at_make; refine wpList_make_row _ rfl _ _ 40 rfl 5 i0 (.int .u8 0) Try.underlying40 hi hz0 hz1 rfl _ _ len2 rfl rfl (by rw [hz2]; omega) (by omega) ?_))
  intro w1 hown1 hgr1
  clear hn1 hcp1 hcp2 hn2
  have HZ : Hid (((w.alloc (.cells (byteCells xs1) 5)).alloc (.cells (byteCells xs2) 5)).heap.size = w.heap.size + 1 + 1) := (show _ = _ by simp)
  have hb1 : Below (w.heap.size + 1 + 1) ((w.alloc (.cells (byteCells xs1) 5)).alloc (.cells (byteCells xs2) 5)) w1 := (Below.refl _ _).grown hgr1 (Nat.le_of_eq HZ.out.symm) (fun k e => by cases e)
  have SP1 := src_below SP hb1 (Nat.le_of_eq HZ.out)
  go_wp2_with (at_builtin; refine wpList_append_fits_any _ rfl _ _ 40 rfl _ 5 i0 1 Try.underlying40 hi hz1 _ 0 (len0 + len1) [] rfl hown1 a0 len0 cap0 (ps.map (Value.int .u8)) rfl (by rw [List.length_map, SP1.1, Nat.mul_one]) SP1.2.1 SP1.2.2 (ints_oneCell _ _) (by omega) ?_)
  intro w2 hown2 hgr2
  try simp only [Nat.zero_add, List.nil_append] at hown2
  have hb2 := hb1.grown hgr2 (Nat.le_trans (Nat.le_of_eq HZ.out.symm) hb1.size) (fun k e => by cases e; exact Nat.le_refl _)
  have SX := src_below (src_of_sl S1) hb2 (Nat.le_of_eq HZ.out)
  go_wp2_with (at_builtin; refine wpList_append_fits_any _ rfl _ _ 40 rfl _ 5 i0 1 Try.underlying40 hi hz1 _ len0 (len0 + len1) (ps.map (Value.int .u8)) rfl hown2 (some ⟨w.heap.size, 0, none⟩) len1 len1 (xs1.map (Value.int .u8)) rfl (by rw [List.length_map, SX.1, Nat.mul_one]) SX.2.1 SX.2.2 (ints_oneCell _ _) (by omega) ?_)
  intro w3 hown3 hgr3
  rw [← List.map_append] at hown3
  have hb3 := hb2.grown hgr3 (Nat.le_trans (Nat.le_of_eq HZ.out.symm) hb2.size) (fun k e => by cases e; exact Nat.le_refl _)
  have hg2 := Nat.le_trans (Nat.le_of_eq HZ.out.symm) hb3.size
  go_wp2_with (at_make; refine wpList_make_own _ rfl _ _ 40 rfl _ 5 i0 (.int .u8 0) 1 Try.underlying40 hi hz0 hz1 _ _ _ (len0 + len2) rfl rfl (by omega) (by rw [hz2]; omega) (by unfold maxLen; omega) (Nat.le_refl _) ?_)
  intro w4 hown4 hgr4
  have hb4 := hb3.grown hgr4 hg2 (fun k e => by cases e)
  have hc4 := (Below.refl _ w3).grown hgr4 (Nat.le_refl _) (fun k e => by cases e)
  have SP4 := src_below SP hb4 (Nat.le_of_eq HZ.out)
  go_wp2_with (at_builtin; refine wpList_append_fits_any _ rfl _ _ 40 rfl _ 5 i0 1 Try.underlying40 hi hz1 _ 0 (len0 + len2) [] rfl hown4 a0 len0 cap0 (ps.map (Value.int .u8)) rfl (by rw [List.length_map, SP4.1, Nat.mul_one]) SP4.2.1 SP4.2.2 (ints_oneCell _ _) (by omega) ?_)
  intro w5 hown5 hgr5
  try simp only [Nat.zero_add, List.nil_append] at hown5
  have hb5 := hb4.grown hgr5 (Nat.le_trans (Nat.le_of_eq HZ.out.symm) hb4.size) (fun k e => by cases e; exact hg2)
  have hc5 := hc4.grown hgr5 hc4.size (fun k e => by cases e; exact Nat.le_refl _)
  have SY := src_below (src_of_sl S2) hb5 (Nat.le_of_eq HZ.out)
  go_wp2_with (at_builtin; refine wpList_append_fits_any _ rfl _ _ 40 rfl _ 5 i0 1 Try.underlying40 hi hz1 _ len0 (len0 + len2) (ps.map (Value.int .u8)) rfl hown5 (some ⟨w.heap.size + 1, 0, none⟩) len2 len2 (xs2.map (Value.int .u8)) rfl (by rw [List.length_map, SY.1, Nat.mul_one]) SY.2.1 SY.2.2 (ints_oneCell _ _) (by omega) ?_)
  intro w6 hown6 hgr6
  rw [← List.map_append] at hown6
  have hb6 := hb5.grown hgr6 (Nat.le_trans (Nat.le_of_eq HZ.out.symm) hb5.size) (fun k e => by cases e; exact hg2)
  have hc6 := hc5.grown hgr6 hc5.size (fun k e => by cases e; exact Nat.le_refl _)
  have RX : Row w6 _ 0 _ _ (ps ++ xs1) := row_below (row_of_owns hown3 (by omega) (bytes_append hbp B1)) hc6 (Nat.le_refl _)
  have RY : Row w6 _ 0 _ _ (ps ++ xs2) := row_of_owns hown6 (by omega) (bytes_append hbp B2)
  have S1' := sl_below S1 hb6 (Nat.le_of_eq HZ.out)
  have S2' := sl_below S2 hb6 (Nat.le_of_eq HZ.out)
  have HB6 : Hid (Below w.heap.size w w6) := HB.out.trans (hb6.mono (Nat.le_trans HB.out.size (Nat.le_of_eq HZ.out)))
  clear hown1 hown2 hown3 hown4 hown5 hown6 hgr1 hgr2 hgr3 hgr4 hgr5 hgr6 hb1 hb2 hb3 hb4 hb5 hb6 hc4 hc5 hc6 SP SP1 SX SP4 SY S1 S2
  go_wp2_with fail
  refine (zz_at _ _ _ _ _ _ _ _ (len0 + L) HL2 _ (.inr ⟨_, _, rfl, RX⟩) (.inr ⟨_, _, rfl, RY⟩)).mono ?_
  rintro e w' ⟨rfl, d1, rfl⟩
  go_wp2_with fail
  refine (zz_at _ _ _ _ _ _ _ _ L HL _ (S1'.drawn ⟨d1, rfl⟩) (S2'.drawn ⟨d1, rfl⟩)).mono ?_
  rintro e w' ⟨rfl, d2, rfl⟩
  go_wp2
  go_ret
  exact ⟨by simp, below_drawn HB6.out ⟨d1 + d2, by simp⟩⟩

set_option maxHeartbeats 1000000 in
set_option maxRecDepth 100000 in
theorem walk (a0 : Option Addr) (len0 cap0 : Nat) (z0 : List Int) (a1 : Option Addr) (len1 cap1 : Nat) (z1 : List Int) (a2 : Option Addr) (len2 cap2 : Nat) (z2 : List Int) (w : World)
    (w0 : IsRow .u8 w a0 len0 cap0 z0) (w1 : IsRow .u8 w a1 len1 cap1 z1) (w2 : IsRow .u8 w a2 len2 cap2 z2) :
    Calls Try.prog 6 #[.slice a0 len0 cap0, .slice a1 len1 cap1, .slice a2 len2 cap2] w fun e w' => e = .returned (.bool true) ∧ Below w.heap.size w w' := by
  have m0 := w0.le
  have m1 := w1.le
  have m2 := w2.le
  by_cases hs : len0 + len1 + len2 ≤ 1048576
  · by_cases k0 : len0 ≤ 262144
    · by_cases k1 : len1 ≤ 262144
      · by_cases k2 : len2 ≤ 262144
        · obtain ⟨hp, hbp⟩ := src_of_row w0
          rcases w1 with ⟨rfl, rfl, rfl, rfl⟩ | ⟨x1, rfl, hl1, hm1, hz1, hc1, hw1⟩
          · rcases w2 with ⟨rfl, rfl, rfl, rfl⟩ | ⟨x2, rfl, hl2, hm2, hz2, hc2, hw2⟩
            · exact walk_nil_nil a0 len0 cap0 _ w k0 hp hbp
            · exact walk_nil_row a0 len0 cap0 _ x2 len2 cap2 z2 w k0 hp hbp k2 (by omega) hc2 hw2
          · rcases w2 with ⟨rfl, rfl, rfl, rfl⟩ | ⟨x2, rfl, hl2, hm2, hz2, hc2, hw2⟩
            · exact walk_row_nil a0 len0 cap0 _ x1 len1 cap1 z1 w k0 hp hbp k1 (by omega) hc1 hw1
            · exact walk_row_row a0 len0 cap0 _ x1 len1 cap1 z1 x2 len2 cap2 z2 w k0 hp hbp k1 (by omega) hc1 hw1 k2 (by omega) hc2 hw2
        · clear w0 w1 w2
          unfold maxLen at m0 m1 m2
          go_enter Try.func6, Try.ntmps6
          go_wp2_with (go_at_call 15; refine (bytes_yes _ _ _ _ _ _ _ _ _ _ hs).mono ?_; rintro e w' ⟨rfl, rfl⟩)
          go_ret
          exact ⟨rfl, Below.refl _ _⟩
      · clear w0 w1 w2
        unfold maxLen at m0 m1 m2
        go_enter Try.func6, Try.ntmps6
        go_wp2_with (go_at_call 15; refine (bytes_yes _ _ _ _ _ _ _ _ _ _ hs).mono ?_; rintro e w' ⟨rfl, rfl⟩)
        go_ret
        exact ⟨rfl, Below.refl _ _⟩
    · clear w0 w1 w2
      unfold maxLen at m0 m1 m2
      go_enter Try.func6, Try.ntmps6
      go_wp2_with (go_at_call 15; refine (bytes_yes _ _ _ _ _ _ _ _ _ _ hs).mono ?_; rintro e w' ⟨rfl, rfl⟩)
      go_ret
      exact ⟨rfl, Below.refl _ _⟩
  · have n0 := m0
    have n1 := m1
    have n2 := m2
    clear w0 w1 w2
    unfold maxLen at m0 m1 m2
    go_enter Try.func6, Try.ntmps6
    go_wp2_with (go_at_call 15; refine (bytes_no _ _ _ _ _ _ _ _ _ _ n0 n1 n2 hs).mono ?_; rintro e w' ⟨rfl, rfl⟩)
    go_ret
    exact ⟨rfl, Below.refl _ _⟩

end Go.Proofs.Qxb6602669a.Law6
