/-
  THE WALK of '(*FSMap).Names' (function 19).
-/
import Derived.Test.Qxb6602669aNamesP
import Derived.Test.Qxb6602669aShelf
import Derived.Laws.IdiomRangeMap
import Derived.Deep.LoopGhost
import Derived.Deep.DeepMust
namespace Go.Proofs.Qxb6602669a.Names
open Go.RowKit Go.Sort
open Go.Maps (Keyed)
open Go.Proofs.Qxb6602669a.Fs Go.Proofs.Qxb6602669a.MapK Go.Proofs.Qxb6602669a.FSP Go.Proofs.Qxb6602669a.Find Go.Proofs.Qxb6602669a.OwnL
set_option linter.unusedVariables false
set_option linter.unusedSimpArgs false

theorem one_cell (w : World) (B : Nat) (hB : B = w.heap.size) (v : Value) (t : TypeId) : ∀ (j : Nat) (u : Value), [v][j]? = some u → (w.alloc (.cells #[v] t)).cell? (Addr.add ⟨B, 0, none⟩ j) = some u := by
  subst hB
  intro j u hu
  cases j with
  | zero => simp at hu; subst hu; simp [Addr.add]
  | succ j => simp at hu

/-- One name more. -/
theorem N1_push {w wr w5 : World} {L : List (List UInt8)} {v v' : Value} {b : ByteArray} {m n : Nat} {o1 o2 : Obj} (h : N1 w wr L v) (hn : L.length = n) (hown : w5.ownsRow w.heap.size 9 1 v' (n + 1) (L.map encStr ++ [.string b])) (hg : ((wr.alloc o1).alloc o2).grownBy w5 v.ownBlock) : N1 w w5 (L ++ [key b]) v' := by
  have hs := h.1.size
  refine ⟨((h.1.alloc hs o1).alloc (by simp; omega) o2).grown hg (by simp; omega) (fun k e => (h.2.lt k e).1), ?_⟩
  rw [List.length_append, List.map_append, hn, List.map_singleton, encStr_key]
  exact hown

theorem NmS_push {ss : List SrvV} {k : Nat} {L : List (List UInt8)} {b : ByteArray} (h : ∀ x, x ∈ L ↔ NmS ss k x) (hs : ∀ x, NmS ss (k + 1) x ↔ NmS ss k x ∨ key b = x) : ∀ x, x ∈ L ++ [key b] ↔ NmS ss (k + 1) x := by
  intro x
  rw [List.mem_append, List.mem_singleton, hs x, h x]
  constructor
  · rintro (h | h)
    · exact .inl h
    · exact .inr h.symm
  · rintro (h | h)
    · exact .inl h
    · exact .inr h.symm

theorem N1_none {w wr w' : World} {L : List (List UInt8)} {v : Value} (h : N1 w wr L v) (hg : wr.grownBy w' none) : N1 w w' L v := by
  refine ⟨h.1.grown hg h.1.size (fun k e => by cases e), h.2.kept hg ?_⟩
  cases e : v.ownBlock with
  | none => exact .inl rfl
  | some k => exact .inr (by simp)
theorem N1_iter {w wr w' : World} {L : List (List UInt8)} {v : Value} {r : Nat} (h : N1 w wr L v) (hg : wr.grownBy w' (some r)) (hr : w.heap.size ≤ r) (hne : some r ≠ v.ownBlock) : N1 w w' L v :=
  ⟨h.1.grown hg h.1.size (fun k e => by cases e; exact hr), h.2.kept hg (.inr hne.symm)⟩

/-- 'slices.Sort' on a row of the call's own. -/
theorem sort_row {wr : World} {base g n cap : Nat} {L : List (List UInt8)} (hown : wr.ownsRow base 9 1 (.slice (some ⟨g, 0, none⟩) n cap) n (L.map encStr)) (hn : L.length = n) (hle : n ≤ 1048576) :
    Calls Try.prog 23 #[.slice (some ⟨g, 0, none⟩) n cap] wr fun e w' => e = .returned (.tuple #[]) ∧ w'.ownsRow base 9 1 (.slice (some ⟨g, 0, none⟩) n cap) n ((sortL L).map encStr) ∧ wr.grownBy w' (some g) := by
  rcases hown.2 with ⟨e, _⟩ | ⟨g', cap', cur, e, hbase, hb, h1, h2, h3, h4⟩
  · cases e
  · cases e
    subst hn
    refine (Try.slices_Sort_string g 0 cap L wr (holds_of_block hb (by simpa using h4)) (Array.getElem?_eq_some_iff.1 hb).1 (by omega)).mono ?_
    rintro e w' ⟨rfl, nn, os, rfl⟩
    exact ⟨rfl, ownsRow_sorted (ts := sortL L) (sortL_length L) hbase hb h1 h2 h3, grownBy_sorted _⟩

/-- 'slices.Compact' on a row of the call's own. -/
theorem compact_row {wr : World} {base g n cap : Nat} {zs : List (List UInt8)} (hown : wr.ownsRow base 9 1 (.slice (some ⟨g, 0, none⟩) n cap) n (zs.map encStr)) (hn : zs.length = n) (hle : n ≤ 1048576) :
    Calls Try.prog 24 #[.slice (some ⟨g, 0, none⟩) n cap] wr fun e w' => e = .returned (.slice (some ⟨g, 0, none⟩) (Lib.compact zs).length cap) ∧ wr.grownBy w' (some g) ∧ g < w'.heap.size ∧ ∀ i x, (Lib.compact zs)[i]? = some x → w'.cell? ⟨g, i, none⟩ = some (encStr x) := by
  rcases hown.2 with ⟨e, _⟩ | ⟨g', cap', cur, e, hbase, hb, h1, h2, h3, h4⟩
  · cases e
  · cases e
    subst hn
    refine (Try.slices_Compact_string g 0 cap zs wr (holds_of_block hb (by simpa using h4)) (by omega) h1).mono ?_
    rintro e w' ⟨rfl, q, rfl⟩
    have hcl := Lib.compact_length_le zs
    have hl : (Lib.compact zs ++ List.replicate (zs.length - (Lib.compact zs).length) []).length = zs.length := by simp; omega
    have ho := ownsRow_sorted (n := q) (os := #[]) (ts := Lib.compact zs ++ List.replicate (zs.length - (Lib.compact zs).length) []) hl hbase hb h1 h2 h3
    have hg := grownBy_sorted (w := wr) (g := g) (n := q) (os := #[]) (Lib.compact zs ++ List.replicate (zs.length - (Lib.compact zs).length) []).toArray
    rw [grow_empty] at ho hg
    refine ⟨rfl, hg, (ho.lt g rfl).2, fun i x hx => ?_⟩
    have hi := (List.getElem?_eq_some_iff.1 hx).1
    rw [ho.cellAt i (by omega), List.getElem?_map, List.getElem?_append_left hi, hx]
    rfl

set_option maxHeartbeats 4000000 in
set_option maxRecDepth 100000 in
theorem names_any (p len len1 : Nat) (sa fa : Option Addr) (ss : List SrvV) (fs : List FsV) (mb : Nat → Option Nat) (w : World) (h0 : w.heap[p]? = some (.cells #[.slice sa len len, .slice fa len1 len1] 68 (0, 0)))
    (hS : RowAt w sa len len 3 (srvC ss)) (hF : RowAt w fa len1 len1 4 (fssC fs mb)) (hM : ∀ i, i < len1 → MapOk w (fs.getD i noFs) (mb i)) (hl1 : fs.length = len1) (hbig : len + len1 + sumF fs len1 ≤ 1048576) :
    Calls Try.prog 19 #[.pointer (some ⟨p, 0, none⟩)] w fun e w' => Post19 w (fun x => NmS ss len x ∨ NmF fs len1 x) 1048576 e w' := by
  obtain ⟨i0, hi, hz0, hz1, hz2⟩ := info_parts info9
  have hpb := (Array.getElem?_eq_some_iff.1 h0).1
  have c0 : w.cell? ⟨p, 0, none⟩ = some (.slice sa len len) := by simp [World.cell?, h0]
  have c1 : w.cell? ⟨p, 1, none⟩ = some (.slice fa len1 len1) := by simp [World.cell?, h0]
  go_enter Try.func19, Try.ntmps19
  go_wp2
  go_loopw [15, 3] (fun i kv wr => ∃ (k : Nat) (L : List (List UInt8)) (ao : Option Addr) (n cap : Nat), k ≤ len ∧ i = .int .i64 k ∧ kv = .slice ao n cap ∧ Hid (n = 0 → ao = none ∧ cap = 0) ∧ Hid (L.length = n) ∧ n ≤ k ∧ Hid (∀ x, x ∈ L ↔ NmS ss k x) ∧ Hid (N1 w wr L (.slice ao n cap))) (fun i _ _ => len - (intOf i).toNat)
  case atStart => exact ⟨0, [], _, _, _, Nat.zero_le _, rfl, rfl, (fun _ => ⟨rfl, rfl⟩), rfl, Nat.le_refl _, fun x => ⟨fun h => (by cases h), fun ⟨i, hi, _⟩ => (by omega)⟩, Below.refl _ _, World.ownsRow_nil _ _ _ _⟩
  case round =>
    obtain ⟨k, L, ao, n, cap, hk, rfl, rfl, hnil, hn, hnk, HL, HN⟩ := hrel
    by_cases hlt : k < len
    · obtain ⟨b, o, rfl, hc⟩ := hS.at hlt
      obtain ⟨g0, g1, g2⟩ := srv_cells HN.out.1 (hc k hlt)
      have HX : Hid (ss.getD k noSrv = ss.getD k noSrv) := rfl
      have HNS : Hid (∀ x, NmS ss (k + 1) x ↔ NmS ss k x ∨ key (ss.getD k noSrv).name = x) := NmS_succ ss k
      generalize ss.getD k noSrv = s at *
      have hj : (k : Int) < (len : Int) := by omega
      have hN2 := HN.out.2
      rw [hn.out] at hN2
      have HB : Hid (w.heap.size ≤ wr.heap.size) := HN.out.1.size
      clear hc HX
      go_wp2_with (at_builtin; go_must (refine wpList_append_one _ rfl (.tmp 19) (.tmp 22) 48 rfl w.heap.size 9 i0 (.string ⟨#[]⟩) 16 Try.underlying48 hi hz0 hz1 hz2 rfl _ n _ rfl ((hN2.alloc _).alloc _) _ (.string s.name) 1 rfl (one_cell _ _ (by simp) _ _) rfl (by unfold maxLen; omega) (by omega) (by have := HB.out; simp; omega) ?_); intro g5 cap5 w5 hown5 hg5 hl5)
      have H5 : Hid (N1 w w5 (L ++ [key s.name]) (.slice (some ⟨g5, 0, none⟩) (n + 1) cap5)) := N1_push (m := 0) HN.out hn.out hown5 hg5
      have H6 : Hid (∀ x, x ∈ L ++ [key s.name] ↔ NmS ss (k + 1) x) := NmS_push HL.out HNS.out
      have H7 : Hid ((L ++ [key s.name]).length = n + 1) := (by rw [List.length_append, hn.out]; rfl : (L ++ [key s.name]).length = n + 1)
      clear hown5 hg5 hl5
      go_roundw
      case rel => exact ⟨k + 1, _, _, _, _, by omega, by go_num, rfl, (fun h => absurd h (Nat.succ_ne_zero _)), H7, by omega, H6, H5⟩
      case measure => simp [intOf]; omega
    · have HL0 : Hid (∀ x, x ∈ L ↔ NmS ss len x ∨ NmF fs 0 x) := fun x => by
        rw [HL.out x, show k = len by omega]
        exact ⟨.inl, fun h => h.elim id (fun ⟨i, hi, _⟩ => by omega)⟩
      have c1' : wr.cell? ⟨p, 1, none⟩ = some (.slice fa len1 len1) := by rw [HN.out.1.cell hpb]; exact c1
      have hnl : n ≤ len := by omega
      obtain ⟨w1, hw1⟩ : ∃ x, x = wr := ⟨_, rfl⟩
      subst hw1
      go_wp2_with fail
      go_loopg [30, 3] len1 (fun gk i kv wr => ∃ (k : Nat) (L : List (List UInt8)) (ao : Option Addr) (n cap : Nat), k ≤ len1 ∧ i = .int .i64 k ∧ len1 - k ≤ gk ∧ kv = .slice ao n cap ∧ Hid (n = 0 → ao = none ∧ cap = 0) ∧ Hid (L.length = n) ∧ Hid (n ≤ len + sumF fs k) ∧ Hid (∀ x, x ∈ L ↔ NmS ss len x ∨ NmF fs k x) ∧ Hid (N1 w wr L (.slice ao n cap)))
      case atStart => exact ⟨0, L, _, _, _, Nat.zero_le _, rfl, by omega, rfl, hnil, hn, Nat.le_trans hnl (Nat.le_add_right _ _), HL0, HN⟩
      case round =>
        clear hnil hn HL HN HL0 hnk hnl c1' hk hlt
        obtain ⟨k2, L, ao, n, cap, hk, rfl, hgk, rfl, hnil, hn, hnb, HL, HN⟩ := hrel
        by_cases hlt : k2 < len1
        · obtain ⟨b, o, rfl, hc⟩ := hF.at hlt
          have gc : ∀ f, f < 4 → wr.cell? ⟨b, o + k2 * 4 + f, none⟩ = some (fsC (fs.getD k2 noFs) (mb k2) f) := fun f hf => by
            have := hc k2 hlt f hf
            rw [HN.out.1.cell (World.block_lt_of_cell? w _ this)]; exact this
          have hMk := hM k2 hlt
          have HSF : Hid (sumF fs (k2 + 1) = sumF fs k2 + (fs.getD k2 noFs).il) := sumF_succ fs k2 (by rw [hl1]; exact hlt)
          have HSM : Hid (sumF fs (k2 + 1) ≤ sumF fs len1) := sumF_mono fs (show k2 + 1 ≤ len1 by omega)
          have HNF : Hid (∀ x, NmF fs (k2 + 1) x ↔ NmF fs k2 x ∨ InM (fE (fs.getD k2 noFs).info) x) := NmF_succ fs k2
          generalize fs.getD k2 noFs = x at *
          generalize mb k2 = mo at *
          have g0 : wr.cell? ⟨b, o + k2 * 4, none⟩ = some (.string x.name) := gc 0 (by omega)
          have g1 : wr.cell? ⟨b, o + k2 * 4 + 1, none⟩ = some (.map mo) := gc 1 (by omega)
          have g2 : wr.cell? ⟨b, o + k2 * 4 + 2, none⟩ = some (.slice x.na x.nl x.nc) := gc 2 (by omega)
          have g3 : wr.cell? ⟨b, o + k2 * 4 + 3, none⟩ = some (.slice x.da x.dl x.dc) := gc 3 (by omega)
          have hj : (k2 : Int) < (len1 : Int) := by omega
          clear gc hc
          obtain ⟨w2, hw2⟩ : ∃ x, x = wr := ⟨_, rfl⟩
          subst hw2
          rcases hMk with ⟨rfl, hinf⟩ | ⟨bm, sz, rfl, hmap⟩
          · have hrn := run_range_nilMap (P := Try.prog) (w2.alloc (.cells #[.string x.name, .map none, .slice x.na x.nl x.nc, .slice x.da x.dl x.dc] 76)) 72 9 70 Try.underlying72
            have hnx : ∀ ty, (Instr.next (.pointer (some ⟨(w2.alloc (.cells #[.string x.name, .map none, .slice x.na x.nl x.nc, .slice x.da x.dl x.dc] 76)).heap.size, 0, none⟩)) false ty).run Try.prog ((w2.alloc (.cells #[.string x.name, .map none, .slice x.na x.nl x.nc, .slice x.da x.dl x.dc] 76)).alloc (.mapIter none 0 #[] 0)) = _ := fun ty => run_next_nilMap _ ty 0 0 #[]
            rw [show (w2.alloc (.cells #[.string x.name, .map none, .slice x.na x.nl x.nc, .slice x.da x.dl x.dc] 76)).heap.size = w2.heap.size + 1 by simp] at hrn hnx
            have HN2 : Hid (N1 w ((w2.alloc (.cells #[.string x.name, .map none, .slice x.na x.nl x.nc, .slice x.da x.dl x.dc] 76)).alloc (.mapIter none 0 #[] 0)) L (.slice ao n cap)) := ⟨(HN.out.1.alloc HN.out.1.size _).alloc (by have := HN.out.1.size; simp; omega) _, (HN.out.2.alloc _).alloc _⟩
            have HL2 : Hid (∀ y, y ∈ L ↔ NmS ss len y ∨ NmF fs (k2 + 1) y) := fun y => by
              rw [HL.out y, HNF.out y, hinf]
              exact ⟨fun h => h.elim .inl (fun h => .inr (.inl h)), fun h => h.elim .inl (fun h => h.elim .inr (fun h => absurd h (InM_nil y)))⟩
            have HNB : Hid (n ≤ len + sumF fs (k2 + 1)) := by have := hnb.out; have := HSF.out; exact (by omega : n ≤ len + sumF fs (k2 + 1))
            clear hinf
            go_wp2_with fail
            go_loopg [3] 0 (fun gk kv wr => kv = .slice ao n cap ∧ wr = (w2.alloc (.cells #[.string x.name, .map none, .slice x.na x.nl x.nc, .slice x.da x.dl x.dc] 76)).alloc (.mapIter none 0 #[] 0))
            case atStart => exact ⟨rfl, rfl⟩
            case round =>
              obtain ⟨rfl, rfl⟩ := hrel
              go_wp2_with fail
              go_roundg (len1 - (k2 + 1))
              case measure => omega
              case rel => exact ⟨k2 + 1, L, _, _, _, by omega, by go_num, by omega, rfl, hnil, hn, HNB, HL2, HN2⟩
          · have hbw := MapG.lt hmap
            have hszl := MapG.size_le hmap
            have hm2 := MapG.alloc (MapG.below hmap HN.out.1 hbw) (.cells #[.string x.name, .map (some bm), .slice x.na x.nl x.nc, .slice x.da x.dl x.dc] 76)
            obtain ⟨D, hown, hsz, hD0⟩ := hm2
            have HD : Hid (DRel D (fE x.info)) := hD0
            have HSZ : Hid (Maps.size D = sz) := hsz
            have HN2 : Hid (N1 w (w2.alloc (.cells #[.string x.name, .map (some bm), .slice x.na x.nl x.nc, .slice x.da x.dl x.dc] 76)) L (.slice ao n cap)) := ⟨HN.out.1.alloc HN.out.1.size _, HN.out.2.alloc _⟩
            clear hD0 hsz hmap
            go_wp2_with (at_range; go_must (refine wpList_range_own _ rfl _ 72 rfl 9 70 key9 Try.underlying72 raw bm x.il D rfl hown ?_); intro w3 hrg0 hg0 hs0; simp only [World.size_alloc] at hrg0 hs0 ⊢)
            have HN3 : Hid (N1 w w3 L (.slice ao n cap)) := N1_none HN2.out hg0
            have HRG : Hid (w3.ranges Try.prog 9 raw bm (w2.heap.size + 1) x.il D (Maps.has D) (Maps.size D)) := hrg0
            have HR1 : Hid (w.heap.size ≤ w2.heap.size + 1) := Nat.le_succ_of_le HN.out.1.size
            have HCN : Hid (n + Maps.size D ≤ len + sumF fs k2 + x.il) := by have := hnb.out; have := HSZ.out; exact (by omega : n + Maps.size D ≤ len + sumF fs k2 + x.il)
            clear hrg0 hg0 hs0 hown hszl
            go_frame
            go_loopg [3] (Maps.size D) (fun gk kv wr => ∃ (left : Lit → Bool) (cnt : Nat) (L3 : List (List UInt8)) (ao : Option Addr) (n cap : Nat), cnt ≤ gk ∧ kv = .slice ao n cap ∧ Hid (n = 0 → ao = none ∧ cap = 0) ∧ Hid (L3.length = n) ∧ Hid (n + cnt ≤ len + sumF fs k2 + x.il) ∧ Hid (Got L3 L (fE x.info) left) ∧ Hid (wr.ranges Try.prog 9 raw bm (w2.heap.size + 1) x.il D left cnt) ∧ Hid (N1 w wr L3 (.slice ao n cap)))
            case atStart => exact ⟨_, _, L, _, _, _, Nat.le_refl _, rfl, hnil, hn, HCN, Got_start HD.out L, HRG, HN3⟩
            case round =>
              clear HN3 HRG HCN HN2
              obtain ⟨left, cnt, L3, ao3, n3, cap3, hcg, rfl, hnil3, hn3, hnc, HGot, HRG, HN3⟩ := hrel
              have hrg := HRG.out
              go_wp2_with (at_next; go_must (refine wpList_next_ranges _ rfl _ rfl 9 key9 raw Value.string (fun c : Value => c) (fun key kl hk => by obtain ⟨q, e, _⟩ := Go.WideMaps.string_of_keyOf Try.underlying9 hk; exact ⟨q, e⟩) (fun v y hv => ⟨v, rfl⟩) bm (w2.heap.size + 1) x.il D left cnt rfl hrg ?_ ?_))
              · intro hc0 hl0
                have HL4 : Hid (∀ y, y ∈ L3 ↔ NmS ss len y ∨ NmF fs (k2 + 1) y) := fun y => by
                  rw [Got_end HGot.out hl0 y, HL.out y, HNF.out y, or_assoc]
                have HNB : Hid (n3 ≤ len + sumF fs (k2 + 1)) := by have := hnc.out; have := HSF.out; exact (by omega : n3 ≤ len + sumF fs (k2 + 1))
                clear hl0 hrg
                go_wp2_with fail
                go_roundg (len1 - (k2 + 1))
                case measure => omega
                case rel => exact ⟨k2 + 1, L3, _, _, _, by omega, by go_num, by omega, rfl, hnil3, hn3, HNB, HL4, HN3⟩
              · intro xk c kl yd yp w5 cnt2 hkey hlk hv hat hrg2 hlt2 hg2 hs2 hen
                obtain ⟨sk, ek, rfl, hks⟩ := Go.WideMaps.string_of_keyOf Try.underlying9 hkey
                cases ek
                obtain ⟨sv, rfl, hfs⟩ := entry_val HD.out hv hat
                have hne := row_ne_iter HN3.out.2 hrg
                have HN5 : Hid (N1 w w5 L3 (.slice ao3 n3 cap3)) := N1_iter HN3.out hg2 HR1.out hne
                have HG5 : Hid (Got (L3 ++ [key sv.name]) L (fE x.info) (fun z => left z && !z.sameKey (.string (key xk)))) := Got_step HGot.out hfs
                have HRG2 : Hid (w5.ranges Try.prog 9 raw bm (w2.heap.size + 1) x.il D (fun z => left z && !z.sameKey (.string (key xk))) cnt2) := hrg2
                have hN2 := HN5.out.2
                rw [hn3.out] at hN2
                have HB : Hid (w.heap.size ≤ w5.heap.size) := HN5.out.1.size
                have hnb3 : n3 + 1 ≤ 1048577 := by have := hnc.out; have := HSF.out; have := HSM.out; omega
                unfold SrvV.val at hen ⊢
                clear hs2 hkey hlk hv hat hrg2 hg2 hfs hks hrg
                go_wp2_with (at_builtin; go_must (refine wpList_append_one _ rfl (.tmp 42) (.tmp 45) 48 rfl w.heap.size 9 i0 (.string ⟨#[]⟩) 16 Try.underlying48 hi hz0 hz1 hz2 rfl _ n3 _ rfl ((hN2.alloc _).alloc _) _ (.string sv.name) 1 rfl (one_cell _ _ (by simp) _ _) rfl (by unfold maxLen; omega) (by omega) (by have := HB.out; simp; omega) ?_); intro g6 cap6 w6 hown6 hg6 hl6)
                have H5 : Hid (N1 w w6 (L3 ++ [key sv.name]) (.slice (some ⟨g6, 0, none⟩) (n3 + 1) cap6)) := N1_push (m := 0) HN5.out hn3.out hown6 hg6
                have H7 : Hid ((L3 ++ [key sv.name]).length = n3 + 1) := (by rw [List.length_append, hn3.out]; rfl : (L3 ++ [key sv.name]).length = n3 + 1)
                have H8 : Hid (n3 + 1 + cnt2 ≤ len + sumF fs k2 + x.il) := by have := hnc.out; exact (by omega : n3 + 1 + cnt2 ≤ len + sumF fs k2 + x.il)
                have H9 : Hid (w6.ranges Try.prog 9 raw bm (w2.heap.size + 1) x.il D (fun z => left z && !z.sameKey (.string (key xk))) cnt2) := ((HRG2.out.alloc _).alloc _).kept hg6 (row_ne_low hN2 hbw) hne
                clear hown6 hg6 hl6
                go_roundg cnt2
                case measure => omega
                case rel => exact ⟨_, cnt2, _, _, _, _, Nat.le_refl _, rfl, (fun h => absurd h (Nat.succ_ne_zero _)), H7, H8, HG5, H9, H5⟩
        · have hk2 : k2 = len1 := by omega
          subst hk2
          have HLE : Hid (n ≤ 1048576) := by have := hnb.out; exact (by omega : n ≤ 1048576)
          by_cases hn0 : n = 0
          · subst hn0
            have HL0 : Hid (L = []) := List.eq_nil_of_length_eq_zero hn.out
            obtain ⟨rfl, rfl⟩ := hnil.out rfl
            go_wp2_with (first
              | (go_at_call 23; go_must (refine (Try.slices_Sort_string_none _ _ _).mono ?_); rintro e w' ⟨rfl, rfl⟩)
              | (go_at_call 24; go_must (refine (Try.slices_Compact_string_empty _ _ _).mono ?_); rintro e w' ⟨rfl, rfl⟩))
            go_ret
            exact ⟨HN.out.1, L, HL.out, by rw [hn.out]; omega, .inl ⟨HL0.out, rfl⟩⟩
          · have hN2 := HN.out.2
            rw [hn.out] at hN2
            rcases hN2.2 with ⟨e, _⟩ | ⟨g, cap', cur, e, hbase, hb, h1, h2, h3, h4⟩
            · cases e; exact absurd rfl hn0
            · cases e
              have HN2 : Hid (wr.ownsRow w.heap.size 9 1 (.slice (some ⟨g, 0, none⟩) n cap) n (L.map encStr)) := hN2
              have HB1 : Hid (Below w.heap.size w wr) := HN.out.1
              have HG1 : Hid (w.heap.size ≤ g) := hbase
              clear hb h1 h2 h3 h4 hN2 hbase
              go_wp2_with (first
                | (go_at_call 23; go_must (refine (sort_row HN2.out hn.out HLE.out).mono ?_); rintro e w5 ⟨rfl, ho5, hg5⟩)
                | (go_at_call 24; go_must (refine (compact_row ho5 ((sortL_length L).trans hn.out) HLE.out).mono ?_); rintro e w6 ⟨rfl, hg6, hl6, hc6⟩))
              go_ret
              have hb5 : Below w.heap.size w w5 := HB1.out.grown hg5 HB1.out.size (fun k e => by cases e; exact HG1.out)
              refine ⟨hb5.grown hg6 hb5.size (fun k e => by cases e; exact HG1.out), L, HL.out, by rw [hn.out]; exact HLE.out, .inr ⟨fun e => hn0 (by rw [← hn.out, e]; rfl), g, cap, rfl, HG1.out, hl6, hc6⟩⟩

end Go.Proofs.Qxb6602669a.Names
