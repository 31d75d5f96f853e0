/-
  WHAT THE WALK OF 'Domains' CARRIES: the three maps as plain functions, and what each step of the search does to them.
-/
import Derived.Test.Qxb6602669aTree
import Derived.Test.Qxb6602669aMaps
import Derived.Test.Qxb6602669aGraph
import Derived.Test.Qxb6602669aOwn
import Derived.WalkSmall
namespace Go.Proofs.Qxb6602669a.Domains
open Go.RowKit
open Go.Maps (Keyed int_keyed keyOf_int_mk)
open Go.Proofs.Qxb6602669a.Nodes Go.Proofs.Qxb6602669a.Tree Go.Proofs.Qxb6602669a.MapK Go.Proofs.Qxb6602669a.Graph Go.Proofs.Qxb6602669a.OwnL
set_option linter.unusedVariables false
set_option linter.unusedSimpArgs false

def idz (ns : List NodeV) (i : Nat) : Int := (ns.getD i noNode).id
def kidz (ns : List NodeV) (i : Nat) : List Int := (ns.getD i noNode).kids
def chV (ns : List NodeV) (i : Nat) : Value := .slice (ns.getD i noNode).ka (ns.getD i noNode).kl (ns.getD i noNode).kc
def nmV (ns : List NodeV) (i : Nat) : Value := .string (ns.getD i noNode).name
def okT (ns : List NodeV) (typ : ByteArray) (i : Nat) : Bool := (ns.getD i noNode).typ.toList == typ.toList
def KF (ns : List NodeV) : Int → List Int := kidsOf (idz ns) (kidz ns) ns.length
/-- What is still to be pushed, and how much there is at most. -/
def potN (ns : List NodeV) (S : Int → Bool) : Nat := pot (idz ns) (kidz ns) ns.length S ns.length
def sumN (ns : List NodeV) : Nat := (ns.map NodeV.kl).sum

/-- An int as a Go value reads as a key. -/
def wfI (x : Int) : Prop := (Lit.int .i64 x).wf = true

/-- The map 'children' behind k nodes. -/
def fC (ns : List NodeV) (k : Nat) (x : Int) : Option Value := (lastTo (idz ns) k x).map (chV ns)
theorem fC_succ (ns : List NodeV) (k : Nat) : upd (fC ns k) (idz ns k) (chV ns k) = fC ns (k + 1) := by
  funext x
  by_cases h : x = idz ns k <;> simp [upd, fC, lastTo, h]

/-- A map keyed by int. -/
def MapI (w : World) (b n : Nat) (f : Int → Option Value) (sz : Nat) : Prop := MapG Try.prog 3 (Lit.int .i64) w b n f sz
theorem key3 : Keyed Try.prog 3 := int_keyed Try.underlying3
theorem info3 : (Try.prog.info? 3).map (fun i => (i.zero, i.size, i.bytes)) = some (some (.int .i64 0), 1, 8) := by kernel_rfl

/-- A set as a map to bool. -/
def setF (S : Int → Bool) (x : Int) : Option Value := if S x = true then some (.bool true) else none
theorem setF_ins (S : Int → Bool) (y : Int) : upd (setF S) y (.bool true) = setF (ins y S) := by
  funext x
  by_cases h : x = y <;> simp [upd, setF, ins, h]
theorem setF_look (S : Int → Bool) (x : Int) : (setF S x).getD (.bool false) = .bool (S x) := by
  unfold setF
  cases h : S x <;> simp [h]

/-- The map 'domains' within one root's search. -/
def domF (f0 : Int → Option Value) (S0 S : Int → Bool) (nm : Value) (x : Int) : Option Value := if S x = true ∧ S0 x = false ∧ 0 ≤ x then some nm else f0 x
theorem domF_same (f0 : Int → Option Value) (S0 : Int → Bool) (nm : Value) : domF f0 S0 S0 nm = f0 := by
  funext x
  unfold domF
  rw [if_neg]
  rintro ⟨h1, h2, _⟩
  rw [h1] at h2; cases h2
theorem domF_pos {f0 : Int → Option Value} {S0 S : Int → Bool} {nm : Value} {y : Int} (h0 : S0 y = false) (hy : 0 ≤ y) : upd (domF f0 S0 S nm) y nm = domF f0 S0 (ins y S) nm := by
  funext x
  by_cases h : x = y
  · subst h; simp [upd, domF, ins, h0, hy]
  · simp [upd, domF, ins, h]
theorem domF_neg {f0 : Int → Option Value} {S0 S : Int → Bool} {nm : Value} {y : Int} (hy : y < 0) : domF f0 S0 (ins y S) nm = domF f0 S0 S nm := by
  funext x
  by_cases h : x = y
  · subst h
    simp [domF, show ¬ 0 ≤ x by omega]
  · simp [domF, ins, h]

theorem lens_sum (ns : List NodeV) (h : ∀ nd ∈ ns, nd.kids.length = nd.kl) : lens (kidz ns) ns.length = sumN ns := by
  have : ∀ k, k ≤ ns.length → lens (kidz ns) k = ((ns.take k).map NodeV.kl).sum := by
    intro k
    induction k with
    | zero => intro _; simp [lens]
    | succ k ih =>
      intro hk
      have e : ns.getD k noNode = ns[k]'(by omega) := by simp [List.getD, List.getElem?_eq_getElem (show k < ns.length by omega)]
      unfold lens
      rw [ih (by omega), List.take_succ_eq_append_getElem (show k < ns.length by omega), List.map_append, List.sum_append_nat]
      unfold kidz
      rw [e, h _ (List.getElem_mem _)]
      simp
  rw [this _ (Nat.le_refl _), List.take_of_length_le (Nat.le_refl _)]
  rfl

theorem pot_bound {w : World} {a : Option Addr} {len cap : Nat} {ns : List NodeV} (h : NodesAt w a len cap ns) (S : Int → Bool) : potN ns S ≤ sumN ns := by
  rw [← lens_sum ns (fun nd hn => (h.hok nd hn).hlen)]
  exact pot_le _ _ _ _ _

/-- What 'children[x]' hands over: a slice that leads to x's children. -/
theorem child_src {w : World} {a : Option Addr} {len cap : Nat} {ns : List NodeV} (h : NodesAt w a len cap ns) (x : Int) :
    ∃ ao m c, (fC ns len x).getD (.slice none 0 0) = .slice ao m c ∧ ((KF ns x).map (Value.int .i64)).length = m ∧ (ao = none → m = 0 ∧ c = 0) ∧ (∀ wr, Below w.heap.size w wr → ∀ ad, ao = some ad → ∀ j u, ((KF ns x).map (Value.int .i64))[j]? = some u → wr.cell? (ad.add j) = some u) ∧ ∀ z ∈ KF ns x, wfI z := by
  have hl := h.hlen
  unfold fC KF kidsOf
  rw [hl]
  cases hj : lastTo (idz ns) len x with
  | none => exact ⟨none, 0, 0, rfl, rfl, fun _ => ⟨rfl, rfl⟩, fun wr hb ad e => (by cases e), fun z hz => by (simp at hz)⟩
  | some j =>
    have hlt := (lastTo_some _ _ _ _ hj).1
    have ok := h.node j hlt
    refine ⟨(ns.getD j noNode).ka, (ns.getD j noNode).kl, (ns.getD j noNode).kc, rfl, (List.length_map _).trans ok.hlen, ok.hnone, fun wr hb ad e i u hu => ?_, fun z hz => ok.hwf z (by simpa [kidz] using hz)⟩
    simp only [Option.map_some, Option.getD_some] at hu
    have hi : i < (ns.getD j noNode).kids.length := by have := (List.getElem?_eq_some_iff.1 hu).1; simpa [kidz] using this
    have hc := ok.hcells ad e i (by rw [← ok.hlen]; exact hi)
    rw [hb.cell (World.block_lt_of_cell? w _ hc), hc]
    rw [List.getElem?_map, show (kidz ns j)[i]? = some ((ns.getD j noNode).kids[i]) from List.getElem?_eq_getElem hi] at hu
    simp only [Option.map_some, Option.some.injEq] at hu
    rw [← hu]
    generalize (ns.getD j noNode).kids = ks at hi ⊢
    simp [List.getD, List.getElem?_eq_getElem hi]

theorem below_cells {w wr : World} {b o k : Nat} {nd : NodeV} (hb : Below w.heap.size w wr) (h : ∀ f, f < 8 → w.cell? ⟨b, o + k * 8 + f, none⟩ = some (nd.cell f)) :
    wr.cell? ⟨b, o + k * 8, none⟩ = some (.int .i64 nd.id) ∧ wr.cell? ⟨b, o + k * 8 + 1, none⟩ = some (.string nd.name) ∧ wr.cell? ⟨b, o + k * 8 + 2, none⟩ = some (.string nd.typ) ∧
    wr.cell? ⟨b, o + k * 8 + 3, none⟩ = some (.int .i64 nd.tid) ∧ wr.cell? ⟨b, o + k * 8 + 4, none⟩ = some (.slice nd.ka nd.kl nd.kc) ∧ wr.cell? ⟨b, o + k * 8 + 5, none⟩ = some (.string nd.status) ∧
    wr.cell? ⟨b, o + k * 8 + 6, none⟩ = some (.pointer nd.rw) ∧ wr.cell? ⟨b, o + k * 8 + 7, none⟩ = some (.string nd.dc) := by
  have g : ∀ f, f < 8 → wr.cell? ⟨b, o + k * 8 + f, none⟩ = some (nd.cell f) := fun f hf => by rw [hb.cell (World.block_lt_of_cell? w _ (h f hf))]; exact h f hf
  exact ⟨g 0 (by omega), g 1 (by omega), g 2 (by omega), g 3 (by omega), g 4 (by omega), g 5 (by omega), g 6 (by omega), g 7 (by omega)⟩

/-! ### the first loop: the map 'children' -/
def L1 (w wr : World) (ns : List NodeV) (k : Nat) : Prop := Below w.heap.size w wr ∧ ∃ sz, MapI wr w.heap.size k (fC ns k) sz

theorem L1_start (w : World) (ns : List NodeV) : L1 w (w.alloc (.map #[] 0)) ns 0 :=
  ⟨(Below.refl _ _).alloc (Nat.le_refl _) _, 0, mapG_made _ _ _ _⟩

theorem L1_step {w wr w2 : World} {ns : List NodeV} {k : Nat} {nd : NodeV} {o : Obj} {sz : Nat} (h : Below w.heap.size w wr) (hnd : ns.getD k noNode = nd) (hm : MapG Try.prog 3 (Lit.int .i64) w2 w.heap.size (k + 1) (upd (fC ns k) nd.id (.slice nd.ka nd.kl nd.kc)) sz) (hg : (wr.alloc o).grownBy w2 (some w.heap.size)) : L1 w w2 ns (k + 1) := by
  refine ⟨(h.alloc h.size o).grown hg (by have := h.size; simp; omega) (fun j e => by cases e; exact Nat.le_refl _), sz, ?_⟩
  have e := fC_succ ns k
  unfold idz chV at e
  rw [hnd] at e
  rw [e] at hm
  exact hm

/-! ### the second loop: over the roots -/
structure L2 (w wr : World) (ns : List NodeV) (typ : ByteArray) (len B k : Nat) (S : Int → Bool) (f : Int → Option Value) (L : List Int) (N : Nat) : Prop where
  bel : Below w.heap.size w wr
  ch : ∃ sz, MapI wr w.heap.size len (fC ns len) sz
  dm : MapI wr B N f L.length
  sn : ∃ sz, MapI wr (B + 1) N (setF S) sz
  lo : w.heap.size < B
  hi : B + 1 < wr.heap.size
  dom : Dom (KF ns) (idz ns) (okT ns typ) (nmV ns) k f
  seen : Seen (KF ns) (idz ns) (okT ns typ) k S
  cl : Closed (KF ns) S
  nd : L.Nodup
  mem : ∀ x, (f x).isSome ↔ x ∈ L
  bd : N + potN ns S ≤ sumN ns + k

theorem L2_start {w wr : World} {ns : List NodeV} {typ : ByteArray} {a : Option Addr} {len cap : Nat} (h : NodesAt w a len cap ns) (h1 : L1 w wr ns len) :
    L2 w ((wr.alloc (.map #[] 0)).alloc (.map #[] 0)) ns typ len wr.heap.size 0 (fun _ => false) (fun _ => none) [] 0 := by
  obtain ⟨hb, sz, hm⟩ := h1
  have hlt := MapG.lt hm
  have e : (wr.alloc (.map #[] 0)).heap.size = wr.heap.size + 1 := by simp
  refine ⟨(hb.alloc hb.size _).alloc (by have := hb.size; simp; omega) _, ⟨sz, (MapG.alloc hm _).alloc _⟩, ?_, ⟨0, ?_⟩, hlt, by simp, dom_start, seen_start, fun y z h => (by cases h), by simp, fun x => by simp, ?_⟩
  · exact MapG.alloc (mapG_made _ _ _ _) _
  · have := mapG_made Try.prog 3 (Lit.int .i64) (wr.alloc (.map #[] 0))
    rw [e] at this
    have e2 : (setF fun _ => false) = fun _ => none := by funext x; simp [setF]
    rw [e2]
    exact this
  · have := pot_bound h (fun _ => false)
    omega

/-! ### the inner loop: one root's search -/
structure L3 (w wr : World) (ns : List NodeV) (len B Nb k : Nat) (r : Int) (S0 : Int → Bool) (f0 : Int → Option Value) (nm : Value) (S : Int → Bool) (L : List Int) (N : Nat) (st : List Int) (g cap : Nat) : Prop where
  bel : Below w.heap.size w wr
  ch : ∃ sz, MapI wr w.heap.size len (fC ns len) sz
  dm : MapI wr B N (domF f0 S0 S nm) L.length
  sn : ∃ sz, MapI wr (B + 1) N (setF S) sz
  lo : w.heap.size < B
  nb : B + 1 < Nb
  hi : Nb < wr.heap.size
  nmc : wr.cell? ⟨Nb, 1, none⟩ = some nm
  own : wr.ownsRow (Nb + 1) 3 1 (.slice (some ⟨g, 0, none⟩) st.length cap) st.length (st.map (Value.int .i64))
  wf : ∀ x ∈ st, wfI x
  dfs : Dfs (KF ns) r S0 S st
  nd : L.Nodup
  mem : ∀ x, (domF f0 S0 S nm x).isSome ↔ x ∈ L
  bd : N + potN ns S + st.length ≤ sumN ns + k + 1

theorem L3.gb {w wr : World} {ns : List NodeV} {len B Nb k : Nat} {r : Int} {S0 : Int → Bool} {f0 : Int → Option Value} {nm : Value} {S : Int → Bool} {L : List Int} {N : Nat} {st : List Int} {g cap : Nat}
    (h : L3 w wr ns len B Nb k r S0 f0 nm S L N st g cap) : Nb + 1 ≤ g ∧ g < wr.heap.size := h.own.lt g rfl

theorem L3_start {w wr : World} {ns : List NodeV} {typ : ByteArray} {len B k : Nat} {S : Int → Bool} {f : Int → Option Value} {L : List Int} {N : Nat} {nd : NodeV} (h : L2 w wr ns typ len B k S f L N) (hw : wfI nd.id) (v0 v2 v3 v4 v5 v6 v7 : Value) :
    L3 w ((wr.alloc (.cells #[v0, .string nd.name, v2, v3, v4, v5, v6, v7] 63)).alloc (.cells #[.int .i64 nd.id] 3)) ns len B wr.heap.size k nd.id S f (.string nd.name) S L N [nd.id] (wr.heap.size + 1) 1 := by
  obtain ⟨szc, hch⟩ := h.ch
  obtain ⟨szs, hsn⟩ := h.sn
  have e : (wr.alloc (.cells #[v0, .string nd.name, v2, v3, v4, v5, v6, v7] 63)).heap.size = wr.heap.size + 1 := by simp
  refine ⟨(h.bel.alloc h.bel.size _).alloc (by have := h.bel.size; simp; omega) _, ⟨szc, (MapG.alloc hch _).alloc _⟩, ?_, ⟨szs, (MapG.alloc hsn _).alloc _⟩, h.lo, h.hi, by simp; omega, by simp, ?_, fun x hx => by (simp at hx; subst hx; exact hw), dfs_start h.cl, h.nd, ?_, ?_⟩
  · rw [domF_same]
    exact (MapG.alloc h.dm _).alloc _
  · have := World.ownsRow_lit (base := wr.heap.size + 1) (e := 3) (size := 1) (wr.alloc (.cells #[v0, .string nd.name, v2, v3, v4, v5, v6, v7] 63)) #[.int .i64 nd.id] 1 (by simp) (by unfold maxLen; omega) rfl
    rw [e] at this
    exact this
  · rw [domF_same]; exact h.mem
  · have := h.bd
    simp
    omega

section
variable {w wr : World} {ns : List NodeV} {len B Nb k : Nat} {r : Int} {S0 : Int → Bool} {f0 : Int → Option Value} {nm : Value} {S : Int → Bool} {L : List Int} {N : Nat} {st : List Int} {g cap : Nat} {x : Int}

/-- The item on top, popped. -/
theorem L3.pop (h : L3 w wr ns len B Nb k r S0 f0 nm S L N (st ++ [x]) g cap) : wr.ownsRow (Nb + 1) 3 1 (.slice (some ⟨g, 0, none⟩) st.length cap) st.length (st.map (Value.int .i64)) ∧ wr.cell? ⟨g, st.length, none⟩ = some (.int .i64 x) := by
  have ho := h.own
  have e : (st ++ [x]).length = st.length + 1 := by simp
  rw [e, List.map_append] at ho
  refine ⟨ownsRow_pop (by simp) ho, ?_⟩
  rw [ho.cellAt st.length (by omega)]
  simp

/-- It has been seen. -/
theorem L3.seen (h : L3 w wr ns len B Nb k r S0 f0 nm S L N (st ++ [x]) g cap) (hx : S x = true) : L3 w wr ns len B Nb k r S0 f0 nm S L N st g cap :=
  { h with
    own := h.pop.1
    wf := fun y hy => h.wf y (by simp [hy])
    dfs := dfs_seen h.dfs hx
    bd := by have := h.bd; simp at this; omega }

/-- It is new, and an OSD. -/
theorem L3.osd (h : L3 w wr ns len B Nb k r S0 f0 nm S L N (st ++ [x]) g cap) (hf0 : ∀ y, f0 y ≠ none → S0 y = true) (hx : S x = false) (h0 : 0 ≤ x) {w2 w3 : World} {sz2 : Nat}
    (hm2 : MapG Try.prog 3 (Lit.int .i64) w2 (B + 1) (N + 1) (upd (setF S) x (.bool true)) sz2) (hg2 : wr.grownBy w2 (some (B + 1)))
    (hm3 : MapG Try.prog 3 (Lit.int .i64) w3 B (N + 1) (upd (domF f0 S0 S nm) x nm) (if (domF f0 S0 S nm x).isSome then L.length else L.length + 1)) (hg3 : w2.grownBy w3 (some B)) :
    L3 w w3 ns len B Nb k r S0 f0 nm (ins x S) (L ++ [x]) (N + 1) st g cap := by
  have hb := h.bel
  have hl := h.lo
  have hn := h.nb
  have hi := h.hi
  have hsz := hb.size
  obtain ⟨hgb, hgl⟩ := h.gb
  obtain ⟨szc, hch⟩ := h.ch
  have hS0 : S0 x = false := by
    cases e : S0 x with
    | false => rfl
    | true => rw [h.dfs.sub x e] at hx; cases hx
  have hnone : domF f0 S0 S nm x = none := by
    unfold domF
    rw [if_neg (by rw [hx]; simp)]
    cases e : f0 x with
    | none => rfl
    | some v => rw [hf0 x (by rw [e]; simp)] at hS0; cases hS0
  have e1 : domF f0 S0 (ins x S) nm = upd (domF f0 S0 S nm) x nm := (domF_pos hS0 h0).symm
  have hxL : x ∉ L := fun hm => by have := (h.mem x).2 hm; rw [hnone] at this; cases this
  rw [hnone] at hm3
  refine ⟨(hb.grown hg2 hsz (fun j e => by cases e; omega)).grown hg3 (Nat.le_trans hsz hg2.size) (fun j e => by cases e; omega), ⟨szc, ?_⟩, ?_, ⟨sz2, ?_⟩, hl, hn, Nat.lt_of_lt_of_le hi (Nat.le_trans hg2.size hg3.size), ?_, ?_, fun y hy => h.wf y (by simp [hy]), ?_, ?_, fun y => ?_, ?_⟩
  · exact (MapG.kept hch hg2 (by simp; omega)).kept hg3 (by simp; omega)
  · rw [e1, List.length_append]
    exact hm3
  · rw [setF_ins] at hm2
    exact hm2.kept hg3 (by simp)
  · exact hg3.cell (hg2.cell h.nmc (by simp; omega)) (by simp; omega)
  · exact (h.pop.1.kept hg2 (.inr (by simp [Value.ownBlock]; omega))).kept hg3 (.inr (by simp [Value.ownBlock]; omega))
  · have := dfs_push (new := []) h.dfs (by simp) (fun hneg => by omega)
    simpa using this
  · rw [List.nodup_append]
    exact ⟨h.nd, by simp, fun a ha b hb e => by simp at hb; subst hb; exact hxL (e ▸ ha)⟩
  · rw [e1]
    by_cases hy : y = x
    · subst hy; simp [upd_same]
    · rw [upd_other _ _ _ _ hy, h.mem y]; simp [hy]
  · have := h.bd
    have hp := pot_mono (idz ns) (kidz ns) ns.length S x ns.length rfl
    unfold potN at this ⊢
    simp at this
    omega

/-- It is new, and a bucket: its children are pushed. -/
theorem L3.bucket (h : L3 w wr ns len B Nb k r S0 f0 nm S L N (st ++ [x]) g cap) (hx : S x = false) (h0 : x < 0) (hwf : ∀ z ∈ KF ns x, wfI z) {w2 w3 : World} {sz2 g' cap' m : Nat} (hm : ((KF ns x).map (Value.int .i64)).length = m)
    (hm2 : MapG Try.prog 3 (Lit.int .i64) w2 (B + 1) (N + 1) (upd (setF S) x (.bool true)) sz2) (hg2 : wr.grownBy w2 (some (B + 1)))
    (hown3 : w3.ownsRow (Nb + 1) 3 1 (.slice (some ⟨g', 0, none⟩) (st.length + m) cap') (st.length + m) (st.map (Value.int .i64) ++ (KF ns x).map (Value.int .i64))) (hg3 : w2.grownBy w3 (some g)) :
    L3 w w3 ns len B Nb k r S0 f0 nm (ins x S) L (N + 1) (st ++ KF ns x) g' cap' ∧ potN ns (ins x S) + (st ++ KF ns x).length < potN ns S + (st ++ [x]).length ∧ (st ++ KF ns x).length = st.length + m := by
  have hb := h.bel
  have hl := h.lo
  have hn := h.nb
  have hi := h.hi
  have hsz := hb.size
  obtain ⟨hgb, hgl⟩ := h.gb
  obtain ⟨szc, hch⟩ := h.ch
  have e1 : domF f0 S0 (ins x S) nm = domF f0 S0 S nm := domF_neg h0
  have hlen : (st ++ KF ns x).length = st.length + m := by rw [← hm]; simp
  have hp := pot_kids (idz ns) (kidz ns) ns.length S x hx
  have hp' : potN ns (ins x S) + (KF ns x).length = potN ns S := hp
  refine ⟨⟨(hb.grown hg2 hsz (fun j e => by cases e; omega)).grown hg3 (Nat.le_trans hsz hg2.size) (fun j e => by cases e; omega), ⟨szc, ?_⟩, ?_, ⟨sz2, ?_⟩, hl, hn, Nat.lt_of_lt_of_le hi (Nat.le_trans hg2.size hg3.size), ?_, ?_, fun y hy => ?_, ?_, h.nd, ?_, ?_⟩, ?_, hlen⟩
  · exact (MapG.kept hch hg2 (by simp; omega)).kept hg3 (by simp; omega)
  · rw [e1]
    exact ((MapG.kept h.dm hg2 (by simp)).mono (Nat.le_succ _)).kept hg3 (by simp; omega)
  · rw [setF_ins] at hm2
    exact hm2.kept hg3 (by simp; omega)
  · exact hg3.cell (hg2.cell h.nmc (by simp; omega)) (by simp; omega)
  · rw [hlen, List.map_append]
    exact hown3
  · rcases List.mem_append.1 hy with hy | hy
    · exact h.wf y (by simp [hy])
    · exact hwf y hy
  · exact dfs_push h.dfs (fun z hz => ⟨h0, hz⟩) (fun _ z hz => hz)
  · rw [e1]; exact h.mem
  · have := h.bd
    simp at this ⊢
    omega
  · simp
    omega

/-- The search is over: one root more. -/
theorem L3.over (h : L3 w wr ns len B Nb k r S0 f0 nm S L N [] g cap) {typ : ByteArray} (hd : Dom (KF ns) (idz ns) (okT ns typ) (nmV ns) k f0) (hs : Seen (KF ns) (idz ns) (okT ns typ) k S0) (ho : okT ns typ k = true) (hr : idz ns k = r) (hnm : nmV ns k = nm) :
    L2 w wr ns typ len B (k + 1) S (domF f0 S0 S nm) L N := by
  obtain ⟨hcl, hiff⟩ := dfs_end h.dfs
  refine ⟨h.bel, h.ch, h.dm, h.sn, h.lo, Nat.lt_trans h.nb h.hi, dom_next hd ho (fun x => ?_), seen_next hs ho (fun x => by rw [hr]; exact hiff x), hcl, h.nd, h.mem, ?_⟩
  · rw [hr, hnm]
    obtain ⟨d1, d2⟩ := dom_seen hd hs x
    refine ⟨fun hf => ?_, fun hf h0 hre => ?_, fun hf hno => ?_⟩
    · unfold domF
      rw [if_neg]
      rintro ⟨_, h2, _⟩
      rw [d1 hf] at h2; cases h2
    · unfold domF
      rw [if_pos ⟨(hiff x).2 (.inr hre), d2 h0 hf, h0⟩]
    · unfold domF
      rw [if_neg, hf]
      rintro ⟨h1, h2, h3⟩
      rcases (hiff x).1 h1 with h | h
      · rw [h2] at h; cases h
      · exact hno ⟨h3, h⟩
  · have := h.bd
    simp at this
    omega
end

/-- A node that does not match. -/
theorem L2.skip {w wr : World} {ns : List NodeV} {typ : ByteArray} {len B k : Nat} {S : Int → Bool} {f : Int → Option Value} {L : List Int} {N : Nat} (h : L2 w wr ns typ len B k S f L N) (ho : okT ns typ k = false) (o : Obj) : L2 w (wr.alloc o) ns typ len B (k + 1) S f L N := by
  obtain ⟨szc, hch⟩ := h.ch
  obtain ⟨szs, hsn⟩ := h.sn
  exact ⟨h.bel.alloc h.bel.size o, ⟨szc, MapG.alloc hch o⟩, MapG.alloc h.dm o, ⟨szs, MapG.alloc hsn o⟩, h.lo, by have := h.hi; simp; omega, dom_skip h.dom ho, seen_skip h.seen ho, h.cl, h.nd, h.mem, by have := h.bd; omega⟩

end Go.Proofs.Qxb6602669a.Domains
