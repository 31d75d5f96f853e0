/-
  THE WALK of the law 'FnSignificantMatchesStrippedDigits' (function 3); its bound 'zzBytes_..' (7).
-/
import Derived.Test.Qxb6603388aSig
namespace Go.Proofs.Qxb6603388a.Law3
open Go.RowKit
open Go.Proofs.Qxb6603388a.Dig Go.Proofs.Qxb6603388a.Sign
set_option linter.unusedVariables false
set_option linter.unusedSimpArgs false

theorem bytes_yes (s : ByteArray) (w : World) (h : s.size ≤ 1048576) : Calls Try.prog 7 #[.string s] w fun e w' => e = .returned (.bool true) ∧ w = w' := by
  go_enter Try.func7, Try.ntmps7
  go_wp2
  go_ret
  exact ⟨rfl, rfl⟩
theorem bytes_no (s : ByteArray) (w : World) (h : ¬ s.size ≤ 1048576) : Calls Try.prog 7 #[.string s] w fun e w' => e = .returned (.bool false) ∧ w = w' := by
  go_enter Try.func7, Try.ntmps7
  go_wp2
  go_ret
  exact ⟨rfl, rfl⟩

theorem info5 : (Try.prog.info? 5).map (fun i => (i.zero, i.size, i.bytes)) = some (some (.int .u8 0), 1, 1) := by kernel_rfl

/-- The row of digits that the law gathers: in a block of its own. -/
def Own (w wr : World) (s : ByteArray) (d : List Int) : Prop :=
  wr.ownsRow w.heap.size 5 1 (.slice (some ⟨w.heap.size, 0, none⟩) d.length s.size) d.length (d.map (Value.int .u8)) ∧ Below w.heap.size w wr

theorem own_push {w wr w2 : World} {s : ByteArray} {d : List Int} {m : Nat} {c : Int} {o : Obj} (hl : d.length = m) (HO : Own w wr s d)
    (hown : w2.ownsRow w.heap.size 5 1 (.slice (some ⟨w.heap.size, 0, none⟩) (m + 1) s.size) (m + 1) (d.map (Value.int .u8) ++ [.int .u8 c])) (hgr : (wr.alloc o).grownBy w2 (some w.heap.size)) : Own w w2 s (d ++ [c]) := by
  subst hl
  refine ⟨by simpa using hown, ?_⟩
  exact (HO.2.alloc HO.2.size o).grown hgr (by have := HO.2.size; simp; omega) (fun k e => by cases e; exact Nat.le_refl _)

theorem own_cells {w wr : World} {s : ByteArray} {d : List Int} (HO : Own w wr s d) (i : Nat) (hi : i < d.length) : wr.cell? ⟨w.heap.size, i, none⟩ = some (.int .u8 (d.getD i 0)) := by
  rw [HO.1.cellAt i (by omega)]
  simp [List.getD, hi]

/-- 'ZZSignificant' beside the two ends. -/
theorem zz_at (s : ByteArray) (w : World) (hs : s.size ≤ 1048576) {m lo hi : Nat} (hl : Hid ((ds s).length = m)) (h1 : lo ≤ hi) (h2 : hi ≤ m) (hlo : Hid (∀ i, i < lo → (ds s).getD i 0 = 48)) (hlo' : Hid (lo < m → (ds s).getD lo 0 ≠ 48))
    (hhi : Hid (∀ i, hi ≤ i → i < m → (ds s).getD i 0 = 48)) (hhi' : Hid (lo < hi → (ds s).getD (hi - 1) 0 ≠ 48)) :
    Calls Try.prog 8 #[.string s] w fun e w' => e = .returned (.int .i64 ((hi : Int) - lo)) ∧ w = w' := by
  refine (zz_any s w hs).mono ?_
  rintro e w' ⟨r, rfl, hr, rfl⟩
  have hl' := hl.out
  rw [sig_strip hr lo hi h1 (by omega) hlo.out (fun h => hlo'.out (by omega)) (fun i a b => hhi.out i a (by omega)) hhi'.out]
  exact ⟨rfl, rfl⟩

set_option maxHeartbeats 2000000 in
set_option maxRecDepth 100000 in
theorem walk_short (s : ByteArray) (hs : s.size ≤ 1048576) (w : World) : Calls Try.prog 3 #[.string s] w fun e w' => e = .returned (.bool true) ∧ Below w.heap.size w w' := by
  obtain ⟨i0, hi, hz0, hz1, hz2⟩ := info_parts info5
  go_enter Try.func3, Try.ntmps3
  go_wp2_with (first
    | (go_at_call 7; refine (bytes_yes s _ hs).mono ?_; rintro e w' ⟨rfl, rfl⟩)
    | (at_make; refine wpList_make_own _ rfl _ _ 23 rfl _ 5 i0 (.int .u8 0) 1 Try.underlying23 hi hz0 hz1 _ _ _ s.size rfl rfl rfl (by rw [hz2]; omega) (by unfold maxLen; omega) (Nat.le_refl _) ?_; intro w1 hown1 hgr1))
  have hb1 := (Below.refl _ w).grown hgr1 (Nat.le_refl _) (fun k e => by cases e)
  have HO : Hid (Own w w1 s (D s 0)) := ⟨by rw [D_zero]; exact hown1, hb1⟩
  clear hown1 hgr1 hb1
  go_loopw [3, 4] (fun g i wr => ∃ (k m : Nat), k ≤ s.size ∧ m ≤ k ∧ i = .int .i64 k ∧ g = .slice (some ⟨w.heap.size, 0, none⟩) m s.size ∧ Hid ((D s k).length = m) ∧ Hid (Own w wr s (D s k))) (fun _ i _ => s.size - (intOf i).toNat)
  case atStart => exact ⟨0, 0, Nat.zero_le _, Nat.le_refl _, rfl, rfl, by rw [D_zero]; rfl, HO⟩
  case round =>
    clear HO
    obtain ⟨k, m, hk, hm, rfl, rfl, HL, HO⟩ := hrel
    by_cases hlt : k < s.size
    · have hown := HO.out.1
      rw [HL.out] at hown
      have hsz := HO.out.2.size
      go_wp2_with (at_builtin; refine wpList_append_fits _ rfl (.tmp 32) (.tmp 34) 23 rfl w.heap.size 5 i0 1 Try.underlying23 hi hz1 _ m s.size _ rfl (hown.alloc _) ⟨wr.heap.size, 0, none⟩ 1 1 [.int .u8 (s[k].toNat : Int)] rfl rfl (cell_one_new _ _ _) (by intro u hu; simp at hu; subst hu; rfl) (by omega) ?_; intro w2 hown2 hgr2)
      · have hd := D_yes s k hlt ‹_› ‹_›
        have HP : Hid (Own w w2 s (D s (k + 1))) := hd ▸ own_push HL.out HO.out hown2 hgr2
        have HM : Hid ((D s (k + 1)).length = m + 1) := (show _ = _ by rw [hd]; simp [HL.out])
        clear hd hown2 hgr2 hown
        go_wp2
        go_roundw
        case rel => exact ⟨k + 1, m + 1, by omega, by omega, by go_num, rfl, HM, HP⟩
        case measure => simp [intOf]; omega
      · have hd := D_high s k hlt (by omega)
        have HP : Hid (Own w wr s (D s (k + 1))) := hd ▸ HO.out
        have HM : Hid ((D s (k + 1)).length = m) := hd ▸ HL.out
        clear hd hown
        go_roundw
        case rel => exact ⟨k + 1, m, by omega, by omega, by go_num, rfl, HM, HP⟩
        case measure => simp [intOf]; omega
      · have hd := D_low s k hlt (by omega)
        have HP : Hid (Own w wr s (D s (k + 1))) := hd ▸ HO.out
        have HM : Hid ((D s (k + 1)).length = m) := hd ▸ HL.out
        clear hd hown
        go_roundw
        case rel => exact ⟨k + 1, m, by omega, by omega, by go_num, rfl, HM, HP⟩
        case measure => simp [intOf]; omega
    · have HO2 : Hid (Own w wr s (ds s)) := D_all s k (by omega) ▸ HO.out
      have HL2 : Hid ((ds s).length = m) := D_all s k (by omega) ▸ HL.out
      clear HO HL
      have hc : ∀ i, i < m → wr.cell? ⟨w.heap.size, i, none⟩ = some (.int .u8 ((ds s).getD i 0)) := fun i hi => own_cells HO2.out i (by rw [HL2.out]; exact hi)
      have HC : Hid _ := hc
      clear hc
      go_wp2
      go_loop [6] (fun v => ∃ lo : Nat, lo ≤ m ∧ v = .int .i64 lo ∧ Hid (∀ i, i < lo → (ds s).getD i 0 = 48)) (fun v => m - (intOf v).toNat)
      case atStart => exact ⟨0, Nat.zero_le _, rfl, fun i hi => by omega⟩
      case round =>
        obtain ⟨lo, hlo, rfl, HLo⟩ := hrel
        by_cases hlt2 : lo < m
        · have hc1 : wr.cell? ⟨w.heap.size, lo, none⟩ = some (.int .u8 ((ds s).getD lo 0)) := HC.out lo hlt2
          obtain ⟨x, hx⟩ : ∃ x, (ds s).getD lo 0 = x := ⟨_, rfl⟩
          rw [hx] at hc1
          have HX : Hid ((ds s).getD lo 0 = x) := hx
          clear hx
          have hj : (lo : Int) < (m : Int) := by omega
          by_cases hx48 : x = 48
          · have hb1 : (x == 48) = true := by simpa using hx48
            have HLo2 : Hid (∀ i, i < lo + 1 → (ds s).getD i 0 = 48) := fun i hi => by
              by_cases e : i < lo
              · exact HLo.out i e
              · rw [show i = lo by omega]; exact HX.out.trans hx48
            clear hx48
            go_wp2
            go_round
            case rel => exact ⟨lo + 1, by omega, by go_num, HLo2⟩
            case measure => simp [intOf]; omega
          · have hb1 : (x == 48) = false := by simpa using hx48
            have HLo' : Hid (lo < m → (ds s).getD lo 0 ≠ 48) := fun _ e => hx48 (HX.out.symm.trans e)
            clear hx48
            go_wp2
            clear hc1 HX hb1
            go_loop [7] (fun v => ∃ h : Nat, lo ≤ h ∧ h ≤ m ∧ v = .int .i64 h ∧ Hid (∀ i, h ≤ i → i < m → (ds s).getD i 0 = 48)) (fun v => (intOf v).toNat)
            case atStart => exact ⟨m, hlo, Nat.le_refl _, rfl, fun i a b => by omega⟩
            case round =>
              obtain ⟨h, hh1, hh2, rfl, HHi⟩ := hrel
              by_cases hlt3 : lo < h
              · obtain ⟨q, rfl⟩ : ∃ q, h = q + 1 := ⟨h - 1, by omega⟩
                have hc2 : wr.cell? ⟨w.heap.size, q, none⟩ = some (.int .u8 ((ds s).getD q 0)) := HC.out q (by omega)
                obtain ⟨y, hy⟩ : ∃ y, (ds s).getD q 0 = y := ⟨_, rfl⟩
                rw [hy] at hc2
                have HY : Hid ((ds s).getD q 0 = y) := hy
                clear hy
                have hj2 : (q : Int) < (m : Int) := by omega
                by_cases h48 : y = 48
                · have hb2 : (y == 48) = true := by simpa using h48
                  have H48 : Hid (y = 48) := h48
                  clear h48
                  go_wp2
                  go_round
                  case rel => exact ⟨q, by omega, by omega, by go_num, fun i a b => by
                    by_cases e : q + 1 ≤ i
                    · exact HHi.out i e b
                    · rw [show i = q by omega]; exact HY.out.trans H48.out⟩
                  case measure => simp [intOf]
                · have hb2 : (y == 48) = false := by simpa using h48
                  have HHi' : Hid (lo < q + 1 → (ds s).getD (q + 1 - 1) 0 ≠ 48) := fun _ => by rw [Nat.add_sub_cancel]; exact fun e => h48 (HY.out.symm.trans e)
                  clear h48
                  go_wp2_with (go_at_call 8; refine (zz_at s _ hs HL2 hh1 hh2 HLo HLo' HHi HHi').mono ?_; rintro e w' ⟨rfl, rfl⟩)
                  go_ret
                  exact ⟨by simp, HO2.out.2⟩
              · have HHi' : Hid (lo < h → (ds s).getD (h - 1) 0 ≠ 48) := fun e => absurd e hlt3
                go_wp2_with (go_at_call 8; refine (zz_at s _ hs HL2 hh1 hh2 HLo HLo' HHi HHi').mono ?_; rintro e w' ⟨rfl, rfl⟩)
                go_ret
                exact ⟨by simp, HO2.out.2⟩
        · have HLo' : Hid (lo < m → (ds s).getD lo 0 ≠ 48) := fun e => absurd e hlt2
          go_wp2
          go_loop [7] (fun v => ∃ h : Nat, lo ≤ h ∧ h ≤ m ∧ v = .int .i64 h ∧ Hid (∀ i, h ≤ i → i < m → (ds s).getD i 0 = 48)) (fun v => (intOf v).toNat)
          case atStart => exact ⟨m, hlo, Nat.le_refl _, rfl, fun i a b => by omega⟩
          case round =>
            obtain ⟨h, hh1, hh2, rfl, HHi⟩ := hrel
            by_cases hlt3 : lo < h
            · exact absurd hlt3 (by omega)
            · have HHi' : Hid (lo < h → (ds s).getD (h - 1) 0 ≠ 48) := fun e => absurd e hlt3
              go_wp2_with (go_at_call 8; refine (zz_at s _ hs HL2 hh1 hh2 HLo HLo' HHi HHi').mono ?_; rintro e w' ⟨rfl, rfl⟩)
              go_ret
              exact ⟨by simp, HO2.out.2⟩

theorem walk_any (s : ByteArray) (w : World) : Calls Try.prog 3 #[.string s] w fun e w' => e = .returned (.bool true) ∧ Below w.heap.size w w' := by
  by_cases h : s.size ≤ 1048576
  · exact walk_short s h w
  · go_enter Try.func3, Try.ntmps3
    go_wp2_with (go_at_call 7; refine (bytes_no s _ h).mono ?_; rintro e w' ⟨rfl, rfl⟩)
    go_ret
    exact ⟨rfl, Below.refl _ _⟩

end Go.Proofs.Qxb6603388a.Law3
