/-
  WHAT THE WALK OF 'FnDomainsFirstReachingBucket' CARRIES: its own search, breadth first from each root.
-/
import Derived.Test.Qxb6602669aDom
import Derived.Test.Qxb6602669aBytes8
import Derived.Maps.AppendAt
namespace Go.Proofs.Qxb6602669a.Law3
open Go.RowKit
open Go.Maps (Keyed int_keyed keyOf_int_mk)
open Go.Proofs.Qxb6602669a.Nodes Go.Proofs.Qxb6602669a.Tree Go.Proofs.Qxb6602669a.MapK Go.Proofs.Qxb6602669a.Graph Go.Proofs.Qxb6602669a.OwnL Go.Proofs.Qxb6602669a.Domains
set_option linter.unusedVariables false
set_option linter.unusedSimpArgs false

/-- 'append(xs, y)' onto a row of the call's own that is written out: the new slice is written out too, and where it lies is told. -/
theorem wpList_append_out1 {P : Program} (w : World) {ops : Array Oper} {rest : List Oper} {o : Oper} {a : Act} {Q : Exit → Act → World → Prop} (hgd : o.guard = none) (s x : Operand) (t : TypeId)
    (ho : o.op = .call { callee := .builtin .append, args := #[s, x], argTypes := #[t, t] })
    (base : Nat) (e : TypeId) (i : TypeInfo) (z : Value) (bytes : Nat) (ht : P.underlying t = some (.slice e)) (hi : P.info? e = some i) (hz : i.zero = some z)
    (hsize : i.size = 1) (hby : i.bytes = bytes) (hzs : z.cells.size = 1)
    (g n cap : Nat) (xs : List Value) (hs : a.eval s = .slice (some ⟨g, 0, none⟩) n cap) (hown : w.ownsRow base e 1 (.slice (some ⟨g, 0, none⟩) n cap) n xs)
    (ad : Addr) (m c : Nat) (news : List Value) (hx : a.eval x = .slice (some ad) m c) (hl : news.length = m * 1) (hnews : ∀ j u, news[j]? = some u → w.cell? (ad.add j) = some u) (h1 : ∀ u ∈ news, u.oneCell' = true)
    (h63 : n + m ≤ maxLen) (hbytes : (n + m) * bytes ≤ 140737488355328) (hbase : base ≤ w.heap.size)
    (h : ∀ g' cap' w', w'.ownsRow base e 1 (.slice (some ⟨g', 0, none⟩) (n + m) cap') (n + m) (xs ++ news) → w.grownBy w' (some g) → (g' = g ∨ g' = w.heap.size) → wpList P ops Q rest (a.put o.dst (.slice (some ⟨g', 0, none⟩) (n + m) cap')) w') : wpList P ops Q (o :: rest) a w := by
  refine wpList_append_own_at w hgd s x t ho base e i z 1 bytes ht hi hz hsize hby hzs (by omega) _ n xs hs hown ad m c news hx hl hnews h1 h63 hbytes hbase ?_
  intro v' w' h2 h3 h4 h5
  obtain ⟨g', cap', rfl, hb⟩ := owns_shape h2 (fun e => by have := (h4.1 e).1; cases this)
  refine h g' cap' w' h2 h3 ?_
  simpa [Value.ownBlock] using h5

/-- The map 'last' behind k nodes. -/
def fL (ns : List NodeV) (k : Nat) (x : Int) : Option Value := (lastTo (idz ns) k x).map (fun j => Value.int .i64 (j : Int))
theorem fL_succ (ns : List NodeV) (k : Nat) : upd (fL ns k) (idz ns k) (.int .i64 (k : Int)) = fL ns (k + 1) := by
  funext x
  by_cases h : x = idz ns k <;> simp [upd, fL, lastTo, h]

def inq (q : List Int) (x : Int) : Bool := decide (x ∈ q)
theorem inq_true {q : List Int} {x : Int} : inq q x = true ↔ x ∈ q := by simp [inq]
theorem inq_false {q : List Int} {x : Int} : inq q x = false ↔ x ∉ q := by simp [inq]
theorem inq_snoc (q : List Int) (y : Int) : ins y (inq q) = inq (q ++ [y]) := by
  funext x
  by_cases h : x = y <;> simp [ins, inq, h]

/-- The map 'assigned' within one root's search. -/
def asgF (f0 : Int → Option Value) (q : List Int) (h : Nat) (nm : Value) (x : Int) : Option Value := if f0 x = none ∧ 0 ≤ x ∧ x ∈ q.take h then some nm else f0 x
theorem asgF_zero (f0 : Int → Option Value) (q : List Int) (nm : Value) : asgF f0 q 0 nm = f0 := by
  funext x; simp [asgF]
theorem take_snoc_get {q : List Int} {h : Nat} {x : Int} (hx : q[h]? = some x) : q.take (h + 1) = q.take h ++ [x] := by
  obtain ⟨hlt, e⟩ := List.getElem?_eq_some_iff.1 hx
  rw [List.take_succ_eq_append_getElem hlt, e]
theorem asgF_new {f0 : Int → Option Value} {q : List Int} {h : Nat} {nm : Value} {x : Int} (hx : q[h]? = some x) (hf : f0 x = none) (h0 : 0 ≤ x) : upd (asgF f0 q h nm) x nm = asgF f0 q (h + 1) nm := by
  funext y
  unfold upd asgF
  rw [take_snoc_get hx]
  by_cases e : y = x
  · subst e; simp [hf, h0]
  · simp [e]
theorem asgF_old {f0 : Int → Option Value} {q : List Int} {h : Nat} {nm : Value} {x : Int} (hx : q[h]? = some x) (hf : f0 x ≠ none ∨ x < 0) : asgF f0 q (h + 1) nm = asgF f0 q h nm := by
  funext y
  unfold asgF
  rw [take_snoc_get hx]
  by_cases e : y = x
  · subst e
    rcases hf with hf | hf
    · simp [hf]
    · simp [show ¬ 0 ≤ y by omega]
  · simp [e]
theorem asgF_app (f0 : Int → Option Value) (q new : List Int) (h : Nat) (nm : Value) (hh : h ≤ q.length) : asgF f0 (q ++ new) h nm = asgF f0 q h nm := by
  funext y
  unfold asgF
  rw [List.take_append_of_le_length hh]

/-! ### what stands while a root is searched -/
structure Env (w wr : World) (ns : List NodeV) (len G ML MA nG : Nat) (fG : Int → Option Value) (szG : Nat) (f : Int → Option Value) (ks : List Int) (v : Value) : Prop where
  bel : Below w.heap.size w wr
  got : MapI wr G nG fG szG
  last : ∃ sz, MapI wr ML len (fL ns len) sz
  asg : ∃ sz, MapI wr MA ks.length f sz
  own : wr.ownsRow (MA + 1) 3 1 v ks.length (ks.map (Value.int .i64))
  o1 : w.heap.size ≤ ML
  o2 : G < ML
  o3 : ML < MA
  o4 : MA < wr.heap.size
  nd : ks.Nodup
  mem : ∀ x, (f x).isSome ↔ x ∈ ks
  wf : ∀ x ∈ ks, wfI x

section
variable {w wr w' : World} {ns : List NodeV} {len G ML MA nG : Nat} {fG : Int → Option Value} {szG : Nat} {f : Int → Option Value} {ks : List Int} {v : Value}

theorem Env.kept (h : Env w wr ns len G ML MA nG fG szG f ks v) {b : Nat} (hg : wr.grownBy w' (some b)) (hb : MA < b) (hv : ∀ k, v.ownBlock = some k → k ≠ b) : Env w w' ns len G ML MA nG fG szG f ks v := by
  obtain ⟨szl, hl⟩ := h.last
  obtain ⟨sza, ha⟩ := h.asg
  have h1 := h.o1
  have h2 := h.o2
  have h3 := h.o3
  refine { h with bel := h.bel.grown hg h.bel.size (fun j e => by cases e; omega), got := MapG.kept h.got hg (by simp; omega), last := ⟨szl, MapG.kept hl hg (by simp; omega)⟩, asg := ⟨sza, MapG.kept ha hg (by simp; omega)⟩, own := h.own.kept hg ?_, o4 := Nat.lt_of_lt_of_le h.o4 hg.size }
  cases e : v.ownBlock with
  | none => exact .inl rfl
  | some k => exact .inr (fun e2 => hv k e (Option.some.inj e2))

theorem Env.alloc (h : Env w wr ns len G ML MA nG fG szG f ks v) (o : Obj) : Env w (wr.alloc o) ns len G ML MA nG fG szG f ks v := by
  obtain ⟨szl, hl⟩ := h.last
  obtain ⟨sza, ha⟩ := h.asg
  exact { h with bel := h.bel.alloc h.bel.size o, got := MapG.alloc h.got o, last := ⟨szl, MapG.alloc hl o⟩, asg := ⟨sza, MapG.alloc ha o⟩, own := h.own.alloc o, o4 := by have := h.o4; simp; omega }

theorem Env.key_lt (h : Env w wr ns len G ML MA nG fG szG f ks v) : ∀ k, v.ownBlock = some k → MA + 1 ≤ k ∧ k < wr.heap.size := h.own.lt
end

structure K3 (w wr : World) (ns : List NodeV) (len G ML MA nG : Nat) (fG : Int → Option Value) (szG : Nat) (i : Nat) (r : Int) (nm : Value) (f0 : Int → Option Value) (ks : List Int) (v : Value) (MV : Nat) (q : List Int) (h g cap : Nat) : Prop where
  env : Env w wr ns len G ML MA nG fG szG (asgF f0 q h nm) ks v
  vis : ∃ sz, MapI wr MV q.length (setF (inq q)) sz
  que : wr.ownsRow (MV + 1) 3 1 (.slice (some ⟨g, 0, none⟩) q.length cap) q.length (q.map (Value.int .i64))
  mv1 : MA < MV
  mv2 : MV < wr.heap.size
  kb : ∀ b, v.ownBlock = some b → b ≠ MV ∧ b ≠ g
  bfs : Bfs (KF ns) r q h
  qwf : ∀ x ∈ q, wfI x
  qb : q.length + potN ns (inq (q.take h)) ≤ 1 + sumN ns
  kbd : ks.length ≤ i * 1048577 + h
  hh : h ≤ q.length

section
variable {w wr w2 w3 : World} {ns : List NodeV} {len G ML MA nG : Nat} {fG : Int → Option Value} {szG i : Nat} {r : Int} {nm : Value} {f0 : Int → Option Value} {ks : List Int} {v : Value} {MV : Nat} {q : List Int} {h g cap : Nat} {x : Int}

theorem K3.gb (H : K3 w wr ns len G ML MA nG fG szG i r nm f0 ks v MV q h g cap) : MV + 1 ≤ g ∧ g < wr.heap.size := H.que.lt g rfl
theorem K3.cell (H : K3 w wr ns len G ML MA nG fG szG i r nm f0 ks v MV q h g cap) (hx : q[h]? = some x) : wr.cell? ⟨g, h, none⟩ = some (.int .i64 x) := by
  rw [H.que.cellAt h (by have := (List.getElem?_eq_some_iff.1 hx).1; omega), List.getElem?_map, hx]
  rfl
theorem K3.fresh (H : K3 w wr ns len G ML MA nG fG szG i r nm f0 ks v MV q h g cap) (hx : q[h]? = some x) : x ∉ q.take h := by
  have hn := H.bfs.nodup
  have hlt := (List.getElem?_eq_some_iff.1 hx).1
  have e : q = q.take (h + 1) ++ q.drop (h + 1) := (List.take_append_drop _ _).symm
  rw [take_snoc_get hx] at e
  rw [e] at hn
  have h1 := (List.nodup_append.1 hn).1
  intro hm
  exact (List.nodup_append.1 h1).2.2 x hm x (by simp) rfl
theorem K3.pot (H : K3 w wr ns len G ML MA nG fG szG i r nm f0 ks v MV q h g cap) (hx : q[h]? = some x) : potN ns (inq (q.take (h + 1))) + (KF ns x).length = potN ns (inq (q.take h)) := by
  rw [take_snoc_get hx, ← inq_snoc]
  exact pot_kids (idz ns) (kidz ns) ns.length (inq (q.take h)) x (inq_false.2 (H.fresh hx))

/-- Nothing to do for this item. -/
theorem K3.skip (H : K3 w wr ns len G ML MA nG fG szG i r nm f0 ks v MV q h g cap) (hx : q[h]? = some x) (hf : f0 x ≠ none ∨ x < 0) (hk : x < 0 → KF ns x = []) : K3 w wr ns len G ML MA nG fG szG i r nm f0 ks v MV q (h + 1) g cap := by
  have hlt := (List.getElem?_eq_some_iff.1 hx).1
  refine { H with env := ?_, bfs := ?_, qb := ?_, kbd := by have := H.kbd; omega, hh := hlt }
  · rw [asgF_old hx hf]; exact H.env
  · have := bfs_next (new := []) H.bfs hx (by simpa using H.bfs.nodup) (by simp) (fun h0 z hz => by rw [hk h0] at hz; cases hz)
    simpa using this
  · have h1 := H.qb
    have h2 := H.pot hx
    omega

/-- An OSD that no earlier root reached. -/
theorem K3.osd (H : K3 w wr ns len G ML MA nG fG szG i r nm f0 ks v MV q h g cap) (hx : q[h]? = some x) (hf : f0 x = none) (h0 : 0 ≤ x) {sz2 : Nat} {o : Obj} {v' : Value}
    (hm2 : MapG Try.prog 3 (Lit.int .i64) w2 MA (ks.length + 1) (upd (asgF f0 q h nm) x nm) sz2) (hg2 : wr.grownBy w2 (some MA))
    (hown : w3.ownsRow (MA + 1) 3 1 v' (ks.length + 1) (ks.map (Value.int .i64) ++ [.int .i64 x])) (hg3 : (w2.alloc o).grownBy w3 v.ownBlock) (hloc : v'.ownBlock = v.ownBlock ∨ v'.ownBlock = some (w2.alloc o).heap.size) :
    K3 w w3 ns len G ML MA nG fG szG i r nm f0 (ks ++ [x]) v' MV q (h + 1) g cap := by
  have hlt := (List.getElem?_eq_some_iff.1 hx).1
  obtain ⟨szl, hl⟩ := H.env.last
  obtain ⟨szv, hv⟩ := H.vis
  have h1 := H.env.o1
  have h2 := H.env.o2
  have h3 := H.env.o3
  have h4 := H.env.o4
  have hmv := H.mv1
  have hmv2 := H.mv2
  obtain ⟨hgb1, hgb2⟩ := H.gb
  have hs2 := hg2.size
  have hs3 := hg3.size
  simp only [World.size_alloc] at hs3
  have hkl := H.env.key_lt
  have hb0 := H.env.bel.size
  have hne : ∀ b, (∀ k, v.ownBlock = some k → k ≠ b) → some b ≠ v.ownBlock := fun b hb e => hb b e.symm rfl
  have hnone : asgF f0 q h nm x = none := by unfold asgF; rw [if_neg (fun c => H.fresh hx c.2.2), hf]
  have hxk : x ∉ ks := fun hm => by have := (H.env.mem x).2 hm; rw [hnone] at this; cases this
  have bel3 : Below w.heap.size w w3 := ((H.env.bel.grown hg2 hb0 (fun j e => by cases e; omega)).alloc (by omega) o).grown hg3 (by simp; omega) (fun j e => by have := (hkl j e).1; omega)
  have hkl' : ∀ b, v'.ownBlock = some b → b ≠ MV ∧ b ≠ g := by
    intro b hb
    rcases hloc with e | e
    · rw [e] at hb; exact H.kb b hb
    · rw [e] at hb
      simp only [World.size_alloc, Option.some.injEq] at hb
      omega
  refine ⟨⟨bel3, ?_, ⟨szl, ?_⟩, ⟨sz2, ?_⟩, ?_, h1, h2, h3, by omega, ?_, fun y => ?_, fun y hy => ?_⟩, ⟨szv, ?_⟩, ?_, hmv, by omega, hkl', ?_, H.qwf, ?_, ?_, hlt⟩
  · exact ((MapG.kept H.env.got hg2 (by simp; omega)).alloc o).kept hg3 (hne G (fun k e => by have := (hkl k e).1; omega))
  · exact ((MapG.kept hl hg2 (by simp; omega)).alloc o).kept hg3 (hne ML (fun k e => by have := (hkl k e).1; omega))
  · rw [asgF_new hx hf h0] at hm2
    rw [List.length_append]
    exact (MapG.alloc hm2 o).kept hg3 (hne MA (fun k e => by have := (hkl k e).1; omega))
  · rw [List.length_append, List.map_append]
    exact hown
  · rw [List.nodup_append]
    exact ⟨H.env.nd, by simp, fun a ha b hb e => by simp at hb; subst hb; exact hxk (e ▸ ha)⟩
  · rw [← asgF_new hx hf h0]
    by_cases hy : y = x
    · subst hy; simp [upd_same]
    · rw [upd_other _ _ _ _ hy, H.env.mem y]; simp [hy]
  · rcases List.mem_append.1 hy with hy | hy
    · exact H.env.wf y hy
    · simp at hy; subst hy; exact H.qwf y (List.mem_of_getElem? hx)
  · exact ((MapG.kept hv hg2 (by simp; omega)).alloc o).kept hg3 (hne MV (fun k e => (H.kb k e).1))
  · refine ((H.que.kept hg2 (.inr (by simp [Value.ownBlock]; omega))).alloc o).kept hg3 (.inr ?_)
    exact hne g (fun k e => (H.kb k e).2)
  · have := bfs_next (new := []) H.bfs hx (by simpa using H.bfs.nodup) (by simp) (fun hneg => by omega)
    simpa using this
  · have h1 := H.qb
    have h2 := H.pot hx
    omega
  · have := H.kbd
    simp
    omega
end

/-! ### the children of one item -/
structure K4 (w wr : World) (ns : List NodeV) (len G ML MA nG : Nat) (fG : Int → Option Value) (szG : Nat) (f : Int → Option Value) (ks : List Int) (v : Value) (MV : Nat) (q : List Int) (x : Int) (c : Nat) (new : List Int) (g cap : Nat) : Prop where
  env : Env w wr ns len G ML MA nG fG szG f ks v
  vis : ∃ sz, MapI wr MV (q ++ new).length (setF (inq (q ++ new))) sz
  que : wr.ownsRow (MV + 1) 3 1 (.slice (some ⟨g, 0, none⟩) (q ++ new).length cap) (q ++ new).length ((q ++ new).map (Value.int .i64))
  mv1 : MA < MV
  mv2 : MV < wr.heap.size
  kb : ∀ b, v.ownBlock = some b → b ≠ MV ∧ b ≠ g
  nd : (q ++ new).Nodup
  isnew : ∀ z ∈ new, z ∈ KF ns x
  all : ∀ z ∈ (KF ns x).take c, z ∈ q ++ new
  nlen : new.length ≤ c
  qwf : ∀ z ∈ q ++ new, wfI z

section
variable {w wr w2 w3 : World} {ns : List NodeV} {len G ML MA nG : Nat} {fG : Int → Option Value} {szG i : Nat} {r : Int} {nm : Value} {f0 f : Int → Option Value} {ks : List Int} {v : Value} {MV : Nat} {q : List Int} {h g cap : Nat} {x : Int} {c : Nat} {new : List Int} {z : Int}

theorem K4_start (H : K3 w wr ns len G ML MA nG fG szG i r nm f0 ks v MV q h g cap) (x : Int) : K4 w wr ns len G ML MA nG fG szG (asgF f0 q h nm) ks v MV q x 0 [] g cap :=
  ⟨H.env, by simpa using H.vis, by simpa using H.que, H.mv1, H.mv2, H.kb, by simpa using H.bfs.nodup, by simp, by simp, Nat.le_refl _, by simpa using H.qwf⟩

theorem take_c {l : List Int} (hz : l[c]? = some z) : l.take (c + 1) = l.take c ++ [z] := take_snoc_get hz

theorem K4.skip (H : K4 w wr ns len G ML MA nG fG szG f ks v MV q x c new g cap) (hz : (KF ns x)[c]? = some z) (hv : inq (q ++ new) z = true) : K4 w wr ns len G ML MA nG fG szG f ks v MV q x (c + 1) new g cap :=
  { H with
    all := fun y hy => by
      rw [take_c hz] at hy
      rcases List.mem_append.1 hy with hy | hy
      · exact H.all y hy
      · simp at hy; subst hy; exact inq_true.1 hv
    nlen := Nat.le_succ_of_le H.nlen }

theorem K4.push (H : K4 w wr ns len G ML MA nG fG szG f ks v MV q x c new g cap) (hz : (KF ns x)[c]? = some z) (hv : inq (q ++ new) z = false) (hwz : wfI z) {sz2 g' cap' : Nat} {o : Obj}
    (hm2 : MapG Try.prog 3 (Lit.int .i64) w2 MV ((q ++ new).length + 1) (upd (setF (inq (q ++ new))) z (.bool true)) sz2) (hg2 : wr.grownBy w2 (some MV))
    (hown : w3.ownsRow (MV + 1) 3 1 (.slice (some ⟨g', 0, none⟩) ((q ++ new).length + 1) cap') ((q ++ new).length + 1) ((q ++ new).map (Value.int .i64) ++ [.int .i64 z])) (hg3 : (w2.alloc o).grownBy w3 (some g)) (hloc : g' = g ∨ g' = (w2.alloc o).heap.size) :
    K4 w w3 ns len G ML MA nG fG szG f ks v MV q x (c + 1) (new ++ [z]) g' cap' := by
  obtain ⟨szv, hvs⟩ := H.vis
  obtain ⟨hgb1, hgb2⟩ : MV + 1 ≤ g ∧ g < wr.heap.size := H.que.lt g rfl
  have hmv := H.mv1
  have hmv2 := H.mv2
  have hs2 := hg2.size
  have hs3 := hg3.size
  simp only [World.size_alloc] at hs3 hloc
  have e : q ++ (new ++ [z]) = (q ++ new) ++ [z] := by simp
  have hkl := H.env.key_lt
  have hzq : z ∉ q ++ new := inq_false.1 hv
  refine ⟨((H.env.kept hg2 hmv (fun k e => (H.kb k e).1)).alloc o).kept hg3 (by omega) (fun k e => (H.kb k e).2), ⟨sz2, ?_⟩, ?_, hmv, by omega, fun b hb => ?_, ?_, fun y hy => ?_, fun y hy => ?_, ?_, fun y hy => ?_⟩
  · rw [setF_ins, inq_snoc] at hm2
    rw [e, List.length_append]
    exact (MapG.alloc hm2 o).kept hg3 (by simp; omega)
  · rw [e, List.length_append, List.map_append]
    exact hown
  · refine ⟨(H.kb b hb).1, ?_⟩
    rcases hloc with e | e
    · rw [e]; exact (H.kb b hb).2
    · have := (hkl b hb).2; omega
  · rw [e, List.nodup_append]
    exact ⟨H.nd, by simp, fun a ha b hb e2 => by simp at hb; rw [hb] at e2; exact hzq (e2 ▸ ha)⟩
  · rcases List.mem_append.1 hy with hy | hy
    · exact H.isnew y hy
    · simp at hy; subst hy; exact List.mem_of_getElem? hz
  · rw [take_c hz] at hy
    rw [e]
    rcases List.mem_append.1 hy with hy | hy
    · exact List.mem_append_left _ (H.all y hy)
    · simp at hy; subst hy; simp
  · have := H.nlen; simp; omega
  · rw [e] at hy
    rcases List.mem_append.1 hy with hy | hy
    · exact H.qwf y hy
    · simp at hy; subst hy; exact hwz

/-- All of them are done: one item more. -/
theorem K4.over (H0 : K3 w w2 ns len G ML MA nG fG szG i r nm f0 ks v MV q h g cap) (hx : q[h]? = some x) (hneg : x < 0) {g' cap' : Nat} (H : K4 w wr ns len G ML MA nG fG szG (asgF f0 q h nm) ks v MV q x c new g' cap') (hc : (KF ns x).length ≤ c) :
    K3 w wr ns len G ML MA nG fG szG i r nm f0 ks v MV (q ++ new) (h + 1) g' cap' := by
  have hlt := (List.getElem?_eq_some_iff.1 hx).1
  refine ⟨?_, H.vis, H.que, H.mv1, H.mv2, H.kb, ?_, H.qwf, ?_, by have := H0.kbd; omega, by simp; omega⟩
  · rw [asgF_app f0 q new (h + 1) nm (by omega), asgF_old hx (.inr hneg)]
    exact H.env
  · exact bfs_next H0.bfs hx H.nd (fun z hz => ⟨hneg, H.isnew z hz⟩) (fun _ z hz => H.all z (by rw [List.take_of_length_le hc]; exact hz))
  · rw [List.take_append_of_le_length (by omega), List.length_append]
    have h1 := H0.qb
    have h2 := H0.pot hx
    have h3 := H.nlen
    have h4 : new.length ≤ (KF ns x).length := by
      have hnd : new.Nodup := (List.nodup_append.1 H.nd).2.1
      exact sub_length new (KF ns x) hnd H.isnew
    omega
end

/-- 'append(xs, y)' onto a row of the call's own, nil or not: the new slice is written out. -/
theorem wpList_append_one {P : Program} (w : World) {ops : Array Oper} {rest : List Oper} {o : Oper} {a : Act} {Q : Exit → Act → World → Prop} (hgd : o.guard = none) (s x : Operand) (t : TypeId)
    (ho : o.op = .call { callee := .builtin .append, args := #[s, x], argTypes := #[t, t] })
    (base : Nat) (e : TypeId) (i : TypeInfo) (z : Value) (bytes : Nat) (ht : P.underlying t = some (.slice e)) (hi : P.info? e = some i) (hz : i.zero = some z)
    (hsize : i.size = 1) (hby : i.bytes = bytes) (hzs : z.cells.size = 1)
    (v : Value) (n : Nat) (xs : List Value) (hs : a.eval s = v) (hown : w.ownsRow base e 1 v n xs)
    (ad : Addr) (y : Value) (c : Nat) (hx : a.eval x = .slice (some ad) 1 c) (hnews : ∀ j u, [y][j]? = some u → w.cell? (ad.add j) = some u) (h1 : y.oneCell' = true)
    (h63 : n + 1 ≤ maxLen) (hbytes : (n + 1) * bytes ≤ 140737488355328) (hbase : base ≤ w.heap.size)
    (h : ∀ g' cap' w', w'.ownsRow base e 1 (.slice (some ⟨g', 0, none⟩) (n + 1) cap') (n + 1) (xs ++ [y]) → w.grownBy w' v.ownBlock → (some g' = v.ownBlock ∨ some g' = some w.heap.size) → wpList P ops Q rest (a.put o.dst (.slice (some ⟨g', 0, none⟩) (n + 1) cap')) w') : wpList P ops Q (o :: rest) a w := by
  refine wpList_append_own_at w hgd s x t ho base e i z 1 bytes ht hi hz hsize hby hzs (by omega) v n xs hs hown ad 1 c [y] hx rfl hnews (fun u hu => by simp at hu; subst hu; exact h1) h63 hbytes hbase ?_
  intro v' w' h2 h3 h4 h5
  obtain ⟨g', cap', rfl, hb⟩ := owns_shape h2 (fun e => by have := (h4.1 e).2; omega)
  exact h g' cap' w' h2 h3 h5

/-! ### the beginnings and the ends -/
/-- The first loop: the map 'last'. -/
def J1 (w wr : World) (ns : List NodeV) (k : Nat) : Prop := Below w.heap.size w wr ∧ ∃ sz, MapI wr w.heap.size k (fL ns k) sz

theorem J1_start (w : World) (ns : List NodeV) : J1 w (w.alloc (.map #[] 0)) ns 0 :=
  ⟨(Below.refl _ _).alloc (Nat.le_refl _) _, 0, mapG_made _ _ _ _⟩

theorem J1_step {w wr w2 : World} {ns : List NodeV} {k : Nat} {sz : Nat} (h : Below w.heap.size w wr) (hm : MapG Try.prog 3 (Lit.int .i64) w2 w.heap.size (k + 1) (upd (fL ns k) (idz ns k) (.int .i64 (k : Int))) sz) (hg : wr.grownBy w2 (some w.heap.size)) : J1 w w2 ns (k + 1) := by
  refine ⟨h.grown hg h.size (fun j e => by cases e; exact Nat.le_refl _), sz, ?_⟩
  rw [fL_succ] at hm
  exact hm

theorem Env_start {w wD wr : World} {ns : List NodeV} {len G nG : Nat} {fG : Int → Option Value} {szG : Nat} (hb : Below w.heap.size w wD) (hG : MapI wD G nG fG szG) (h : J1 wD wr ns len) :
    Env w (wr.alloc (.map #[] 0)) ns len G wD.heap.size wr.heap.size nG fG szG (fun _ => none) [] (.slice none 0 0) := by
  obtain ⟨h1, sz, h2⟩ := h
  have hlt := MapG.lt hG
  have hlt2 := MapG.lt h2
  have hs := hb.size
  exact ⟨(hb.trans (h1.mono hs)).alloc (Nat.le_trans hs h1.size) _, MapG.alloc (MapG.below hG h1 hlt) _, ⟨sz, MapG.alloc h2 _⟩, ⟨0, mapG_made _ _ _ _⟩, World.ownsRow_nil _ _ _ _, hs, hlt, hlt2, by simp, by simp, fun x => by simp, fun x hx => by (simp at hx)⟩

set_option maxRecDepth 100000 in
theorem K3_start {w wr w2 : World} {ns : List NodeV} {len G ML MA nG : Nat} {fG : Int → Option Value} {szG i : Nat} {f : Int → Option Value} {ks : List Int} {v : Value} {a : Option Addr} {cap0 : Nat} (hns : ∃ w0, NodesAt w0 a len cap0 ns) (h : Env w wr ns len G ML MA nG fG szG f ks v) (r : Int) (nm : Value) (hr : wfI r) (hk : ks.length ≤ i * 1048577) {sz : Nat}
    (hm : MapG Try.prog 3 (Lit.int .i64) w2 wr.heap.size 1 (upd (fun _ => none) r (.bool true)) sz) (hg : (wr.alloc (.map #[] 0)).grownBy w2 (some wr.heap.size)) :
    K3 w (w2.alloc (.cells #[.int .i64 r] 3)) ns len G ML MA nG fG szG i r nm f ks v wr.heap.size [r] 0 w2.heap.size 1 := by
  obtain ⟨w0, hns⟩ := hns
  have hs := hg.size
  simp only [World.size_alloc] at hs
  have h4 := h.o4
  have hkl := h.key_lt
  have e : setF (inq [r]) = upd (fun _ => none) r (.bool true) := by
    funext x
    by_cases hx : x = r <;> simp [setF, inq, upd, hx]
  refine ⟨?_, ⟨sz, ?_⟩, ?_, h4, by simp; omega, fun b hb => ?_, bfs_start r, fun x hx => by (simp at hx; subst hx; exact hr), ?_, Nat.le_trans hk (Nat.le_add_right _ _), by simp⟩
  · rw [asgF_zero]
    exact ((h.alloc _).kept hg h4 (fun k e => by have := (hkl k e).2; omega)).alloc _
  · rw [e]
    exact MapG.alloc hm _
  · have := World.ownsRow_lit (base := wr.heap.size + 1) (e := 3) (size := 1) w2 #[.int .i64 r] 1 (by omega) (by unfold maxLen; omega) rfl
    exact this
  · have := (hkl b hb).2
    omega
  · have := pot_bound hns (inq ([r].take 0))
    simp at this ⊢
    omega

set_option maxRecDepth 100000 in
theorem K3.over {w wr : World} {ns : List NodeV} {len G ML MA nG : Nat} {fG : Int → Option Value} {szG i : Nat} {r : Int} {nm : Value} {f0 : Int → Option Value} {ks : List Int} {v : Value} {MV : Nat} {q : List Int} {h g cap : Nat} {typ : ByteArray}
    (H : K3 w wr ns len G ML MA nG fG szG i r nm f0 ks v MV q h g cap) (hh : q.length ≤ h) (hd : Dom (KF ns) (idz ns) (okT ns typ) (nmV ns) i f0) (ho : okT ns typ i = true) (hr : idz ns i = r) (hnm : nmV ns i = nm) (hsum : sumN ns ≤ 1048576) :
    Dom (KF ns) (idz ns) (okT ns typ) (nmV ns) (i + 1) (asgF f0 q h nm) ∧ ks.length ≤ (i + 1) * 1048577 := by
  have hiff := bfs_end H.bfs hh
  have htk : q.take h = q := List.take_of_length_le hh
  refine ⟨dom_next hd ho (fun x => ?_), ?_⟩
  · rw [hr, hnm]
    unfold asgF
    rw [htk]
    refine ⟨fun hf => if_neg (fun c => hf c.1), fun hf h0 hre => if_pos ⟨hf, h0, (hiff x).2 hre⟩, fun hf hno => ?_⟩
    rw [if_neg (fun c => hno ⟨c.2.1, (hiff x).1 c.2.2⟩), hf]
  · have h1 := H.kbd
    have h2 := H.qb
    have h3 := H.hh
    omega

end Go.Proofs.Qxb6602669a.Law3
