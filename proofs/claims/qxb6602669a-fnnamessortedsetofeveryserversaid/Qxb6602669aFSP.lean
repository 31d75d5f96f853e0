/-
  WHAT THE WALK OF 'zzFSMap' CARRIES: rows of the call's own, filled one by one; the maps of entries as plain functions.
-/
import Derived.Test.Qxb6602669aSrv
import Derived.Test.Qxb6602669aMaps
import Derived.StringKeys
namespace Go.Proofs.Qxb6602669a.FSP
open Go.RowKit
open Go.Maps (Keyed)
open Go.Proofs.Qxb6602669a.Fs Go.Proofs.Qxb6602669a.MapK
set_option linter.unusedVariables false
set_option linter.unusedSimpArgs false

theorem info70 : (Try.prog.info? 70).map (fun i => (i.zero, i.size, i.bytes)) = some (some (.agg #[.string ⟨#[]⟩, .int .i64 0, .string ⟨#[]⟩]), 3, 40) := by kernel_rfl
theorem info76 : (Try.prog.info? 76).map (fun i => (i.zero, i.size, i.bytes)) = some (some (.agg #[.string ⟨#[]⟩, .map none, .slice none 0 0, .slice none 0 0]), 4, 72) := by kernel_rfl
theorem key9 : Keyed Try.prog 9 := Go.Maps.string_keyed Try.underlying9

theorem sumF_mono (fs : List FsV) : ∀ {a b : Nat}, a ≤ b → sumF fs a ≤ sumF fs b
  | a, 0, h => by rw [show a = 0 by omega]; exact Nat.le_refl _
  | a, b + 1, h => by
    by_cases e : a = b + 1
    · rw [e]; exact Nat.le_refl _
    · refine Nat.le_trans (sumF_mono fs (show a ≤ b by omega)) ?_
      by_cases hb : b < fs.length
      · rw [sumF_succ fs b hb]; omega
      · unfold sumF
        rw [List.take_of_length_le (by omega), List.take_of_length_le (by omega)]
        exact Nat.le_refl _

/-! ### the entries as a map -/
def key (b : ByteArray) : List UInt8 := b.data.toList
def fE (es : List EntV) : List UInt8 → Option Value := es.foldl (fun f e => upd f (key e.gid) e.srv.val) (fun _ => none)
theorem fE_nil : fE [] = fun _ => none := rfl
theorem fE_snoc (es : List EntV) (e : EntV) : fE (es ++ [e]) = upd (fE es) (key e.gid) e.srv.val := by
  unfold fE
  rw [List.foldl_append]
  rfl
theorem fE_take {es : List EntV} {j : Nat} (h : j < es.length) : upd (fE (es.take j)) (key (es.getD j noEnt).gid) (es.getD j noEnt).srv.val = fE (es.take (j + 1)) := by
  have e : es.getD j noEnt = es[j] := by simp [List.getD, List.getElem?_eq_getElem h]
  rw [List.take_succ_eq_append_getElem h, fE_snoc, e]

def MapS (w : World) (b n : Nat) (f : List UInt8 → Option Value) (sz : Nat) : Prop := MapG Try.prog 9 Lit.string w b n f sz

/-- The map of a filesystem: nil where its entries were, else one that holds the last entry of each key. -/
def MapOk (w : World) (x : FsV) (mo : Option Nat) : Prop := (mo = none ∧ x.info = []) ∨ ∃ b sz, mo = some b ∧ MapS w b x.il (fE x.info) sz
theorem MapOk.block {w w' : World} {x : FsV} {mo : Option Nat} (h : MapOk w x mo) (hb : ∀ b, mo = some b → w'.heap[b]? = w.heap[b]?) : MapOk w' x mo := by
  rcases h with h | ⟨b, sz, e, h⟩
  · exact .inl h
  · exact .inr ⟨b, sz, e, MapG.block h (hb b e)⟩
theorem MapOk.lt {w : World} {x : FsV} {mo : Option Nat} (h : MapOk w x mo) : ∀ b, mo = some b → b < w.heap.size := by
  intro b e
  rcases h with ⟨h, _⟩ | ⟨b', sz, e', h⟩
  · rw [h] at e; cases e
  · rw [e'] at e; cases e; exact MapG.lt h

/-! ### a row of the call's own, filled one by one -/
def Laid (wr : World) (g n : Nat) (t : TypeId) (sz : Nat) (c : Nat → Nat → Value) (k : Nat) : Prop :=
  ∃ cur : Array Value, wr.heap[g]? = some (.cells cur t (0, 0)) ∧ cur.size = n * sz ∧ ∀ i, i < k → ∀ f, f < sz → cur[i * sz + f]? = some (c i f)

section
variable {w w' wr : World} {g n : Nat} {t : TypeId} {sz : Nat} {c : Nat → Nat → Value} {k : Nat}
theorem Laid.there (h : Laid wr g n t sz c k) (j : Nat) (hj : j < n * sz) : (∃ v, wr.cell? ⟨g, j, none⟩ = some v) ∧ wr.frozen? ⟨g, j, none⟩ = false := by
  obtain ⟨cur, hb, hs, _⟩ := h
  refine ⟨⟨cur[j]'(by omega), ?_⟩, ?_⟩
  · simp [World.cell?, hb, show j < cur.size by omega]
  · simp [World.frozen?, hb]
theorem Laid.lt (h : Laid wr g n t sz c k) : g < wr.heap.size := by
  obtain ⟨cur, hb, _⟩ := h
  exact (Array.getElem?_eq_some_iff.1 hb).1
theorem Laid.block (h : Laid wr g n t sz c k) (hb : w'.heap[g]? = wr.heap[g]?) : Laid w' g n t sz c k := by
  obtain ⟨cur, h1, h2⟩ := h
  exact ⟨cur, hb.trans h1, h2⟩
theorem Laid.alloc (h : Laid wr g n t sz c k) (o : Obj) : Laid (wr.alloc o) g n t sz c k := h.block (Below.heap_alloc wr o g h.lt)
theorem Laid.congr {c' : Nat → Nat → Value} (h : Laid wr g n t sz c k) (hc : ∀ i, i < k → ∀ f, f < sz → c i f = c' i f) : Laid wr g n t sz c' k := by
  obtain ⟨cur, h1, h2, h3⟩ := h
  exact ⟨cur, h1, h2, fun i hi f hf => by rw [h3 i hi f hf, hc i hi f hf]⟩
theorem Laid.row (h : Laid wr g n t sz c k) (hk : n ≤ k) (hn : n ≤ maxLen) : RowAt wr (some ⟨g, 0, none⟩) n n sz c := by
  obtain ⟨cur, hg, hs, hc⟩ := h
  refine ⟨Nat.le_refl _, hn, fun e => (by cases e), .inr ⟨_, _, rfl, fun i hi f hf => ?_⟩⟩
  rw [Nat.zero_add, ← hc i (by omega) f hf]
  simp [World.cell?, hg]
theorem laid_start {base : Nat} {xs : List Value} (h : wr.ownsRow base t sz (.slice (some ⟨g, 0, none⟩) n n) n xs) : Laid wr g n t sz c 0 := by
  rcases h.2 with ⟨e, _⟩ | ⟨g, cap, cur, e, _, hb, _, _, hs, _⟩
  · cases e
  · cases e
    exact ⟨cur, hb, hs, fun i hi => by omega⟩
theorem set_row {j : Nat} {cur : Array Value} {v : Value} (h : wr.heap[g]? = some (.cells cur t (0, 0))) : (wr.setCell ⟨g, j, none⟩ v).heap[g]? = some (.cells (cur.setIfInBounds j v) t (0, 0)) := by
  simp [World.setCell, Array.getElem?_modify, h]
theorem laid_step3 {v0 v1 v2 : Value} (h : Laid wr g n t 3 c k) (hlt : k < n) (h0 : c k 0 = v0) (h1 : c k 1 = v1) (h2 : c k 2 = v2) :
    Laid (((wr.setCell ⟨g, k * 3, none⟩ v0).setCell ⟨g, k * 3 + 1, none⟩ v1).setCell ⟨g, k * 3 + 2, none⟩ v2) g n t 3 c (k + 1) := by
  obtain ⟨cur, hg, hs, hc⟩ := h
  refine ⟨_, set_row (set_row (set_row hg)), by simp [hs], fun i hi f hf => ?_⟩
  by_cases hik : i = k
  · subst hik
    match f, hf with
    | 0, _ => simp [Array.getElem?_setIfInBounds, h0]; omega
    | 1, _ => simp [Array.getElem?_setIfInBounds, h1]; omega
    | 2, _ => simp [Array.getElem?_setIfInBounds, h2]; omega
    | k + 3, h => omega
  · rw [Array.getElem?_setIfInBounds_ne (by omega), Array.getElem?_setIfInBounds_ne (by omega), Array.getElem?_setIfInBounds_ne (by omega)]
    exact hc i (by omega) f hf
theorem laid_step4 {v0 v1 v2 v3 : Value} (h : Laid wr g n t 4 c k) (hlt : k < n) (h0 : c k 0 = v0) (h1 : c k 1 = v1) (h2 : c k 2 = v2) (h3 : c k 3 = v3) :
    Laid ((((wr.setCell ⟨g, k * 4, none⟩ v0).setCell ⟨g, k * 4 + 1, none⟩ v1).setCell ⟨g, k * 4 + 2, none⟩ v2).setCell ⟨g, k * 4 + 3, none⟩ v3) g n t 4 c (k + 1) := by
  obtain ⟨cur, hg, hs, hc⟩ := h
  refine ⟨_, set_row (set_row (set_row (set_row hg))), by simp [hs], fun i hi f hf => ?_⟩
  by_cases hik : i = k
  · subst hik
    match f, hf with
    | 0, _ => simp [Array.getElem?_setIfInBounds, h0]; omega
    | 1, _ => simp [Array.getElem?_setIfInBounds, h1]; omega
    | 2, _ => simp [Array.getElem?_setIfInBounds, h2]; omega
    | 3, _ => simp [Array.getElem?_setIfInBounds, h3]; omega
    | k + 4, h => omega
  · rw [Array.getElem?_setIfInBounds_ne (by omega), Array.getElem?_setIfInBounds_ne (by omega), Array.getElem?_setIfInBounds_ne (by omega), Array.getElem?_setIfInBounds_ne (by omega)]
    exact hc i (by omega) f hf
end

def srvC (ss : List SrvV) (i : Nat) : Nat → Value := (ss.getD i noSrv).cell
/-- The cells of a ceph.Filesystem. -/
def fsC (x : FsV) (mo : Option Nat) : Nat → Value
  | 0 => .string x.name
  | 1 => .map mo
  | 2 => .slice x.na x.nl x.nc
  | _ => .slice x.da x.dl x.dc
def fssC (fs : List FsV) (mb : Nat → Option Nat) (i : Nat) : Nat → Value := fsC (fs.getD i noFs) (mb i)

/-! ### the stages -/
/-- Behind the standbys. -/
def Stage1 (w wr : World) (ss : List SrvV) (len : Nat) : Prop :=
  Below w.heap.size w wr ∧ ∃ sa, wr.heap[w.heap.size]? = some (.cells #[.slice sa len len, .slice none 0 0] 68 (0, 0)) ∧ RowAt wr sa len len 3 (srvC ss) ∧ ∀ ad, sa = some ad → ad.block = w.heap.size + 1 ∧ w.heap.size + 1 < wr.heap.size

/-- While the standbys are laid. -/
def J1 (w wr : World) (ss : List SrvV) (len k : Nat) : Prop :=
  Below w.heap.size w wr ∧ wr.heap[w.heap.size]? = some (.cells #[.slice none 0 0, .slice none 0 0] 68 (0, 0)) ∧ Laid wr (w.heap.size + 1) len 70 3 (srvC ss) k

/-- What zzFSMap hands back. -/
def Post18 (w : World) (ss : List SrvV) (fs : List FsV) (len len1 : Nat) (e : Ending) (w' : World) : Prop :=
  e = .returned (.pointer (some ⟨w.heap.size, 0, none⟩)) ∧ Below w.heap.size w w' ∧ ∃ sa fa mb, w'.heap[w.heap.size]? = some (.cells #[.slice sa len len, .slice fa len1 len1] 68 (0, 0)) ∧ RowAt w' sa len len 3 (srvC ss) ∧ RowAt w' fa len1 len1 4 (fssC fs mb) ∧ ∀ i, i < len1 → MapOk w' (fs.getD i noFs) (mb i)

/-- While the filesystems are laid (w2: the world ahead of their row). -/
def J2 (w2 wr : World) (fs : List FsV) (len1 : Nat) (mb : Nat → Option Nat) (k : Nat) : Prop :=
  Below w2.heap.size w2 wr ∧ Laid wr w2.heap.size len1 76 4 (fssC fs mb) k ∧ ∀ i, i < k → MapOk wr (fs.getD i noFs) (mb i) ∧ ∀ b, mb i = some b → w2.heap.size < b

/-- While one map is filled (w3: the world ahead of it). -/
def J3 (w3 wr : World) (es : List EntV) (j : Nat) : Prop := Below w3.heap.size w3 wr ∧ ∃ sz, MapS wr w3.heap.size j (fE (es.take j)) sz

abbrev fresh68 : Obj := .cells #[.slice none 0 0, .slice none 0 0] 68
def srvO (s : SrvV) (t : TypeId) : Obj := .cells #[.string s.name, .int .i64 s.rank, .string s.state] t

theorem block_alloc {w : World} {o : Obj} {b : Nat} {x : Obj} (h : w.heap[b]? = some x) : (w.alloc o).heap[b]? = some x := by
  rw [Below.heap_alloc w o b (Array.getElem?_eq_some_iff.1 h).1, h]
theorem block_set {w : World} {g j b : Nat} {v : Value} (hne : b ≠ g) : (w.setCell ⟨g, j, none⟩ v).heap[b]? = w.heap[b]? := Below.heap_setCell w ⟨g, j, none⟩ v b hne
theorem alloc_at (w : World) (o : Obj) : (w.alloc o).heap[w.heap.size]? = some o := by
  show (w.heap.push o)[w.heap.size]? = _
  simp

theorem J1_start {w w1 : World} {ss : List SrvV} {len base : Nat} {xs : List Value} (hown : w1.ownsRow base 70 3 (.slice (some ⟨w.heap.size + 1, 0, none⟩) len len) len xs) (hg : (w.alloc fresh68).grownBy w1 none) : J1 w w1 ss len 0 := by
  refine ⟨((Below.refl _ w).alloc (Nat.le_refl _) _).grown hg (by simp) (fun k e => by cases e), ?_, laid_start hown⟩
  rw [hg.block _ (by simp) (by simp)]
  exact alloc_at w _

theorem J1_step {w wr : World} {ss : List SrvV} {len k : Nat} {s : SrvV} (h : J1 w wr ss len k) (hlt : k < len) (hs : ss.getD k noSrv = s) (A B : Obj) :
    J1 w (((((wr.alloc A).alloc B).setCell ⟨w.heap.size + 1, k * 3, none⟩ (.string s.name)).setCell ⟨w.heap.size + 1, k * 3 + 1, none⟩ (.int .i64 s.rank)).setCell ⟨w.heap.size + 1, k * 3 + 2, none⟩ (.string s.state)) ss len (k + 1) := by
  obtain ⟨h1, h2, h3⟩ := h
  have hsz := h1.size
  refine ⟨((((h1.alloc hsz A).alloc (by simp; omega) B).setCell (by show w.heap.size ≤ w.heap.size + 1; omega) _).setCell (by show w.heap.size ≤ w.heap.size + 1; omega) _).setCell (by show w.heap.size ≤ w.heap.size + 1; omega) _, ?_, laid_step3 ((h3.alloc A).alloc B) hlt (by unfold srvC; rw [hs]; rfl) (by unfold srvC; rw [hs]; rfl) (by unfold srvC; rw [hs]; rfl)⟩
  rw [block_set (by omega), block_set (by omega), block_set (by omega)]
  exact block_alloc (block_alloc h2)

theorem J1_end {w wr : World} {ss : List SrvV} {len : Nat} (h : J1 w wr ss len len) (hl : len ≤ maxLen) : Stage1 w (wr.setCell ⟨w.heap.size, 0, none⟩ (.slice (some ⟨w.heap.size + 1, 0, none⟩) len len)) ss len := by
  obtain ⟨h1, h2, h3⟩ := h
  refine ⟨h1.setCell (Nat.le_refl _) _, _, ?_, (h3.block (block_set (by omega))).row (Nat.le_refl _) hl, fun ad e => by cases e; exact ⟨rfl, by have := h3.lt; simpa using this⟩⟩
  rw [set_row h2]
  rfl

theorem Stage1_nil (w : World) (ss : List SrvV) : Stage1 w (w.alloc fresh68) ss 0 :=
  ⟨(Below.refl _ w).alloc (Nat.le_refl _) _, none, alloc_at w _, ⟨Nat.le_refl _, by unfold maxLen; omega, fun _ => ⟨rfl, rfl⟩, .inl rfl⟩, fun ad e => by cases e⟩

theorem Post18_nil {w wr : World} {ss : List SrvV} {fs : List FsV} {len : Nat} (h : Stage1 w wr ss len) : Post18 w ss fs len 0 (.returned (.pointer (some ⟨w.heap.size, 0, none⟩))) wr := by
  obtain ⟨h1, sa, h2, h3, _⟩ := h
  exact ⟨rfl, h1, sa, none, fun _ => none, h2, h3, ⟨Nat.le_refl _, by unfold maxLen; omega, fun _ => ⟨rfl, rfl⟩, .inl rfl⟩, fun i hi => by omega⟩

theorem Stage1.there {w wr : World} {ss : List SrvV} {len : Nat} (h : Stage1 w wr ss len) : (∃ v, wr.cell? ⟨w.heap.size, 1, none⟩ = some v) ∧ wr.frozen? ⟨w.heap.size, 1, none⟩ = false := by
  obtain ⟨_, sa, h2, _⟩ := h
  exact ⟨⟨.slice none 0 0, by simp [World.cell?, h2]⟩, by simp [World.frozen?, h2]⟩

theorem J1.there0 {w wr : World} {ss : List SrvV} {len k : Nat} (h : J1 w wr ss len k) : (∃ v, wr.cell? ⟨w.heap.size, 0, none⟩ = some v) ∧ wr.frozen? ⟨w.heap.size, 0, none⟩ = false := by
  obtain ⟨_, h2, _⟩ := h
  exact ⟨⟨.slice none 0 0, by simp [World.cell?, h2]⟩, by simp [World.frozen?, h2]⟩

theorem below_on {w w1 w2 : World} (h : Below w.heap.size w w1) (k : Below w1.heap.size w1 w2) : Below w.heap.size w w2 := h.trans (k.mono h.size)

theorem rowAt_keep {w w' : World} {a : Option Addr} {len cap sz : Nat} {c : Nat → Nat → Value} (h : RowAt w a len cap sz c) (hb : ∀ ad, a = some ad → w'.heap[ad.block]? = w.heap[ad.block]?) : RowAt w' a len cap sz c :=
  ⟨h.hle, h.hcap, h.hnone, h.hcells.imp id fun ⟨b, o, e, hc⟩ => ⟨b, o, e, fun i hi f hf => by rw [World.cell?_of_block (w := w) (a := ⟨b, o + i * sz + f, none⟩) (hb ⟨b, o, none⟩ e)]; exact hc i hi f hf⟩⟩

/-- Behind the test on one Info (wr: the world ahead of it). -/
def K2 (wr wx : World) (x : FsV) (mo : Option Nat) : Prop := Below wr.heap.size wr wx ∧ MapOk wx x mo ∧ ∀ b, mo = some b → wr.heap.size ≤ b

theorem J2_start {w2 w3 : World} {fs : List FsV} {len1 base : Nat} {xs : List Value} (mb : Nat → Option Nat) (hown : w3.ownsRow base 76 4 (.slice (some ⟨w2.heap.size, 0, none⟩) len1 len1) len1 xs) (hg : w2.grownBy w3 none) : J2 w2 w3 fs len1 mb 0 :=
  ⟨(Below.refl _ w2).grown hg (Nat.le_refl _) (fun k e => by cases e), laid_start hown, fun i hi => by omega⟩

theorem J2_step {w2 wr wx : World} {fs : List FsV} {len1 k : Nat} {mb : Nat → Option Nat} {x : FsV} {mo : Option Nat} (h : J2 w2 wr fs len1 mb k) (hlt : k < len1) (hx : fs.getD k noFs = x) (hk : K2 wr wx x mo) :
    J2 w2 (((((wx.setCell ⟨w2.heap.size, k * 4, none⟩ (.string x.name)).setCell ⟨w2.heap.size, k * 4 + 1, none⟩ (.map mo)).setCell ⟨w2.heap.size, k * 4 + 2, none⟩ (.slice x.na x.nl x.nc)).setCell ⟨w2.heap.size, k * 4 + 3, none⟩ (.slice x.da x.dl x.dc)).drew) fs len1 (fun i => if i = k then mo else mb i) (k + 1) := by
  obtain ⟨h1, h2, h3⟩ := h
  obtain ⟨k1, k2, k3⟩ := hk
  have hs := h1.size
  have hlt2 := h2.lt
  have hb := below_on h1 k1
  have hset : ∀ b, b ≠ w2.heap.size → (((((wx.setCell ⟨w2.heap.size, k * 4, none⟩ (.string x.name)).setCell ⟨w2.heap.size, k * 4 + 1, none⟩ (.map mo)).setCell ⟨w2.heap.size, k * 4 + 2, none⟩ (.slice x.na x.nl x.nc)).setCell ⟨w2.heap.size, k * 4 + 3, none⟩ (.slice x.da x.dl x.dc)).drew).heap[b]? = wx.heap[b]? := fun b hb => by
    show ((((wx.setCell ⟨w2.heap.size, k * 4, none⟩ (.string x.name)).setCell ⟨w2.heap.size, k * 4 + 1, none⟩ (.map mo)).setCell ⟨w2.heap.size, k * 4 + 2, none⟩ (.slice x.na x.nl x.nc)).setCell ⟨w2.heap.size, k * 4 + 3, none⟩ (.slice x.da x.dl x.dc)).heap[b]? = _
    rw [block_set hb, block_set hb, block_set hb, block_set hb]
  refine ⟨((((hb.setCell (Nat.le_refl _) _).setCell (Nat.le_refl _) _).setCell (Nat.le_refl _) _).setCell (Nat.le_refl _) _).drew, ?_, fun i hi => ?_⟩
  · have hL : Laid wx w2.heap.size len1 76 4 (fssC fs (fun i => if i = k then mo else mb i)) k := (h2.block (k1.block _ hlt2)).congr (fun i hi f hf => by unfold fssC; simp [show i ≠ k by omega])
    have := laid_step4 (v0 := .string x.name) (v1 := .map mo) (v2 := .slice x.na x.nl x.nc) (v3 := .slice x.da x.dl x.dc) hL hlt (by unfold fssC; rw [hx]; rfl) (by unfold fssC; rw [hx]; simp [fsC]) (by unfold fssC; rw [hx]; rfl) (by unfold fssC; rw [hx]; rfl)
    exact this
  · by_cases hik : i = k
    · subst hik
      simp only [if_true]
      rw [hx]
      exact ⟨k2.block (fun b e => hset b (by have := k3 b e; omega)), fun b e => by have := k3 b e; omega⟩
    · simp only [if_neg hik]
      obtain ⟨m1, m2⟩ := h3 i (by omega)
      exact ⟨m1.block (fun b e => by rw [hset b (by have := m2 b e; omega)]; exact k1.block b (m1.lt b e)), m2⟩

theorem J2_end {w w2 wr : World} {ss : List SrvV} {fs : List FsV} {len len1 : Nat} {mb : Nat → Option Nat} (hs : Stage1 w w2 ss len) (h : J2 w2 wr fs len1 mb len1) (hl : len1 ≤ maxLen) :
    Post18 w ss fs len len1 (.returned (.pointer (some ⟨w.heap.size, 0, none⟩))) (wr.setCell ⟨w.heap.size, 1, none⟩ (.slice (some ⟨w2.heap.size, 0, none⟩) len1 len1)) := by
  obtain ⟨s1, sa, s2, s3, s4⟩ := hs
  obtain ⟨h1, h2, h3⟩ := h
  have hz : w.heap.size < w2.heap.size := (Array.getElem?_eq_some_iff.1 s2).1
  have hb := below_on s1 h1
  have h0 : wr.heap[w.heap.size]? = some (.cells #[.slice sa len len, .slice none 0 0] 68 (0, 0)) := by rw [h1.block _ hz]; exact s2
  refine ⟨rfl, hb.setCell (Nat.le_refl _) _, sa, some ⟨w2.heap.size, 0, none⟩, mb, ?_, ?_, (h2.block (block_set (by omega))).row (Nat.le_refl _) hl, fun i hi => ?_⟩
  · rw [set_row h0]; rfl
  · refine rowAt_keep s3 (fun ad e => ?_)
    obtain ⟨e1, e2⟩ := s4 ad e
    rw [e1, block_set (by omega)]
    exact h1.block _ (by omega)
  · obtain ⟨m1, m2⟩ := h3 i hi
    exact m1.block (fun b e => block_set (by have := m2 b e; omega))

theorem J2_there {w w2 wr : World} {ss : List SrvV} {fs : List FsV} {len len1 k : Nat} {mb : Nat → Option Nat} (hs : Stage1 w w2 ss len) (h : J2 w2 wr fs len1 mb k) : (∃ v, wr.cell? ⟨w.heap.size, 1, none⟩ = some v) ∧ wr.frozen? ⟨w.heap.size, 1, none⟩ = false := by
  obtain ⟨s1, sa, s2, s3, s4⟩ := hs
  have hz : w.heap.size < w2.heap.size := (Array.getElem?_eq_some_iff.1 s2).1
  have h0 : wr.heap[w.heap.size]? = some (.cells #[.slice sa len len, .slice none 0 0] 68 (0, 0)) := by rw [h.1.block _ hz]; exact s2
  exact ⟨⟨.slice none 0 0, by simp [World.cell?, h0]⟩, by simp [World.frozen?, h0]⟩

theorem K2_nil (wr : World) {x : FsV} (h : x.info = []) : K2 wr wr x none := ⟨Below.refl _ _, .inl ⟨rfl, h⟩, fun b e => by cases e⟩

theorem J3_start (w3 : World) (es : List EntV) : J3 w3 (w3.alloc (.map #[] 0)) es 0 :=
  ⟨(Below.refl _ _).alloc (Nat.le_refl _) _, 0, mapG_made _ _ _ _⟩

/-- One entry more, behind the call that makes its value. -/
theorem J3_put {w3 wr : World} {es : List EntV} {j : Nat} {e : EntV} (h : J3 w3 wr es j) (hj : j < es.length) (he : es.getD j noEnt = e) (hn : j < maxLen) (hgid : e.gid.size ≤ maxLen) (A B : Obj) :
    ∃ w5, (Instr.mapUpdate 72 (.map (some w3.heap.size)) (.string e.gid) (.agg #[.string e.srv.name, .int .i64 e.srv.rank, .string e.srv.state])).run Try.prog (((wr.alloc A).alloc B).drew) = .ok () w5 ∧ J3 w3 w5 es (j + 1) := by
  obtain ⟨h1, sz, h2⟩ := h
  have hm : MapG Try.prog 9 Lit.string (((wr.alloc A).alloc B).drew) w3.heap.size j (fE (es.take j)) sz := MapG.block ((MapG.alloc (MapG.alloc h2 A) B)) rfl
  obtain ⟨w5, hrun, r1, r2⟩ := MapG.put hm emb_str_inj emb_str_key key9 Try.underlying72 hn (val := .agg #[.string e.srv.name, .int .i64 e.srv.rank, .string e.srv.state]) (Go.WideMaps.keyOf_string_mk Try.underlying9 hgid)
  have hs := h1.size
  have hb : Below w3.heap.size w3 (((wr.alloc A).alloc B).drew) := ((h1.alloc hs A).alloc (by simp; omega) B).drew
  have hb5 : Below w3.heap.size w3 w5 := hb.grown r2 hb.size (fun k ek => by cases ek; exact Nat.le_refl _)
  refine ⟨w5, hrun, hb5, if (fE (es.take j) (key e.gid)).isSome then sz else sz + 1, ?_⟩
  rw [← fE_take hj, he]
  exact r1

theorem K2_end {wr wx : World} {x : FsV} (h : J3 wr wx x.info x.info.length) (hl : x.info.length = x.il) : K2 wr wx x (some wr.heap.size) := by
  obtain ⟨h1, sz, h2⟩ := h
  refine ⟨h1, .inr ⟨_, sz, rfl, ?_⟩, fun b e => by cases e; exact Nat.le_refl _⟩
  rw [List.take_length, hl] at h2
  exact h2

end Go.Proofs.Qxb6602669a.FSP
