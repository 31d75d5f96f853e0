/-
  WHAT THE WALKS ARE TOLD OF A []Server, A []FS AND THE ENTRIES IN IT: plain values, and the cells that hold them.
-/
import Derived.Test.Qxb6602669aRows
import Derived.WalkKit
import Derived.WalkSpells
import Derived.WalkLawsBesides
import Derived.Deep.QuietTactic
import Derived.BigQuiet
import Derived.Below
namespace Go.Proofs.Qxb6602669a.Fs
open Go.RowKit
set_option linter.unusedVariables false
set_option linter.unusedSimpArgs false

/-- A slice leads to rows of sz cells each: cell f of row i holds c i f. -/
structure RowAt (w : World) (a : Option Addr) (len cap sz : Nat) (c : Nat → Nat → Value) : Prop where
  hle : len ≤ cap
  hcap : cap ≤ maxLen
  hnone : a = none → len = 0 ∧ cap = 0
  hcells : len = 0 ∨ ∃ b o, a = some ⟨b, o, none⟩ ∧ ∀ i, i < len → ∀ f, f < sz → w.cell? ⟨b, o + i * sz + f, none⟩ = some (c i f)

theorem RowAt.below {w w' : World} {a : Option Addr} {len cap sz : Nat} {c : Nat → Nat → Value} (h : RowAt w a len cap sz c) (hb : Below w.heap.size w w') : RowAt w' a len cap sz c :=
  ⟨h.hle, h.hcap, h.hnone, h.hcells.imp id fun ⟨b, o, e, hc⟩ => ⟨b, o, e, fun i hi f hf => by rw [hb.cell (World.block_lt_of_cell? w _ (hc i hi f hf))]; exact hc i hi f hf⟩⟩

theorem RowAt.at {w : World} {a : Option Addr} {len cap sz : Nat} {c : Nat → Nat → Value} (h : RowAt w a len cap sz c) {i : Nat} (hi : i < len) : ∃ b o, a = some ⟨b, o, none⟩ ∧ ∀ i, i < len → ∀ f, f < sz → w.cell? ⟨b, o + i * sz + f, none⟩ = some (c i f) :=
  h.hcells.resolve_left (by omega)

structure SrvV where
  name : ByteArray
  rank : Int
  state : ByteArray
def noSrv : SrvV := ⟨.empty, 0, .empty⟩
def SrvV.cell (s : SrvV) : Nat → Value
  | 0 => .string s.name
  | 1 => .int .i64 s.rank
  | _ => .string s.state
def SrvV.val (s : SrvV) : Value := .agg #[.string s.name, .int .i64 s.rank, .string s.state]
structure SrvV.Ok (s : SrvV) : Prop where
  hname : s.name.size ≤ maxLen
  hstate : s.state.size ≤ maxLen

structure EntV where
  gid : ByteArray
  srv : SrvV
def noEnt : EntV := ⟨.empty, noSrv⟩
def EntV.cell (e : EntV) : Nat → Value
  | 0 => .string e.gid
  | 1 => .string e.srv.name
  | 2 => .int .i64 e.srv.rank
  | _ => .string e.srv.state
structure EntV.Ok (e : EntV) : Prop where
  hgid : e.gid.size ≤ maxLen
  hsrv : e.srv.Ok

/-- A filesystem: its entries, and the two slices that are handed on as they are. -/
structure FsV where
  name : ByteArray
  ia : Option Addr
  il : Nat
  ic : Nat
  info : List EntV
  na : Option Addr
  nl : Nat
  nc : Nat
  da : Option Addr
  dl : Nat
  dc : Nat
def noFs : FsV := ⟨.empty, none, 0, 0, [], none, 0, 0, none, 0, 0⟩
def FsV.cell (x : FsV) : Nat → Value
  | 0 => .string x.name
  | 1 => .slice x.ia x.il x.ic
  | 2 => .slice x.na x.nl x.nc
  | _ => .slice x.da x.dl x.dc

structure SrvsAt (w : World) (a : Option Addr) (len cap : Nat) (ss : List SrvV) : Prop where
  hlen : ss.length = len
  row : RowAt w a len cap 3 (fun i => (ss.getD i noSrv).cell)
  hok : ∀ s ∈ ss, s.Ok

structure EntsAt (w : World) (a : Option Addr) (len cap : Nat) (es : List EntV) : Prop where
  hlen : es.length = len
  row : RowAt w a len cap 4 (fun i => (es.getD i noEnt).cell)
  hok : ∀ s ∈ es, s.Ok

structure FsV.Ok (w : World) (x : FsV) : Prop where
  hname : x.name.size ≤ maxLen
  hinfo : EntsAt w x.ia x.il x.ic x.info
  hnl : x.nl ≤ maxLen
  hdl : x.dl ≤ maxLen

structure FssAt (w : World) (a : Option Addr) (len cap : Nat) (fs : List FsV) : Prop where
  hlen : fs.length = len
  row : RowAt w a len cap 4 (fun i => (fs.getD i noFs).cell)
  hok : ∀ x ∈ fs, x.Ok w

theorem SrvsAt.below {w w' : World} {a : Option Addr} {len cap : Nat} {ss : List SrvV} (h : SrvsAt w a len cap ss) (hb : Below w.heap.size w w') : SrvsAt w' a len cap ss := ⟨h.hlen, h.row.below hb, h.hok⟩
theorem EntsAt.below {w w' : World} {a : Option Addr} {len cap : Nat} {ss : List EntV} (h : EntsAt w a len cap ss) (hb : Below w.heap.size w w') : EntsAt w' a len cap ss := ⟨h.hlen, h.row.below hb, h.hok⟩
theorem FsV.Ok.below {w w' : World} {x : FsV} (h : x.Ok w) (hb : Below w.heap.size w w') : x.Ok w' := ⟨h.hname, h.hinfo.below hb, h.hnl, h.hdl⟩
theorem FssAt.below {w w' : World} {a : Option Addr} {len cap : Nat} {ss : List FsV} (h : FssAt w a len cap ss) (hb : Below w.heap.size w w') : FssAt w' a len cap ss := ⟨h.hlen, h.row.below hb, fun x hx => (h.hok x hx).below hb⟩

theorem getD_mem {α : Type} {l : List α} {d : α} {i : Nat} (h : i < l.length) : l.getD i d ∈ l := by
  have e : l.getD i d = l[i] := by simp [List.getD, List.getElem?_eq_getElem h]
  rw [e]; exact List.getElem_mem _

theorem SrvsAt.ok {w : World} {a : Option Addr} {len cap : Nat} {ss : List SrvV} (h : SrvsAt w a len cap ss) {i : Nat} (hi : i < len) : (ss.getD i noSrv).Ok := h.hok _ (getD_mem (by rw [h.hlen]; exact hi))
theorem EntsAt.ok {w : World} {a : Option Addr} {len cap : Nat} {ss : List EntV} (h : EntsAt w a len cap ss) {i : Nat} (hi : i < len) : (ss.getD i noEnt).Ok := h.hok _ (getD_mem (by rw [h.hlen]; exact hi))
theorem FssAt.ok {w : World} {a : Option Addr} {len cap : Nat} {ss : List FsV} (h : FssAt w a len cap ss) {i : Nat} (hi : i < len) : (ss.getD i noFs).Ok w := h.hok _ (getD_mem (by rw [h.hlen]; exact hi))

/-- The cells of one row, in a world that has kept the memory. -/
theorem srv_cells {w wr : World} {b o k : Nat} {s : SrvV} (hb : Below w.heap.size w wr) (h : ∀ f, f < 3 → w.cell? ⟨b, o + k * 3 + f, none⟩ = some (s.cell f)) :
    wr.cell? ⟨b, o + k * 3, none⟩ = some (.string s.name) ∧ wr.cell? ⟨b, o + k * 3 + 1, none⟩ = some (.int .i64 s.rank) ∧ wr.cell? ⟨b, o + k * 3 + 2, none⟩ = some (.string s.state) := by
  have g : ∀ f, f < 3 → wr.cell? ⟨b, o + k * 3 + f, none⟩ = some (s.cell f) := fun f hf => by rw [hb.cell (World.block_lt_of_cell? w _ (h f hf))]; exact h f hf
  exact ⟨g 0 (by omega), g 1 (by omega), g 2 (by omega)⟩
theorem ent_cells {w wr : World} {b o k : Nat} {s : EntV} (hb : Below w.heap.size w wr) (h : ∀ f, f < 4 → w.cell? ⟨b, o + k * 4 + f, none⟩ = some (s.cell f)) :
    wr.cell? ⟨b, o + k * 4, none⟩ = some (.string s.gid) ∧ wr.cell? ⟨b, o + k * 4 + 1, none⟩ = some (.string s.srv.name) ∧ wr.cell? ⟨b, o + k * 4 + 2, none⟩ = some (.int .i64 s.srv.rank) ∧ wr.cell? ⟨b, o + k * 4 + 3, none⟩ = some (.string s.srv.state) := by
  have g : ∀ f, f < 4 → wr.cell? ⟨b, o + k * 4 + f, none⟩ = some (s.cell f) := fun f hf => by rw [hb.cell (World.block_lt_of_cell? w _ (h f hf))]; exact h f hf
  exact ⟨g 0 (by omega), g 1 (by omega), g 2 (by omega), g 3 (by omega)⟩
theorem fs_cells {w wr : World} {b o k : Nat} {s : FsV} (hb : Below w.heap.size w wr) (h : ∀ f, f < 4 → w.cell? ⟨b, o + k * 4 + f, none⟩ = some (s.cell f)) :
    wr.cell? ⟨b, o + k * 4, none⟩ = some (.string s.name) ∧ wr.cell? ⟨b, o + k * 4 + 1, none⟩ = some (.slice s.ia s.il s.ic) ∧ wr.cell? ⟨b, o + k * 4 + 2, none⟩ = some (.slice s.na s.nl s.nc) ∧ wr.cell? ⟨b, o + k * 4 + 3, none⟩ = some (.slice s.da s.dl s.dc) := by
  have g : ∀ f, f < 4 → wr.cell? ⟨b, o + k * 4 + f, none⟩ = some (s.cell f) := fun f hf => by rw [hb.cell (World.block_lt_of_cell? w _ (h f hf))]; exact h f hf
  exact ⟨g 0 (by omega), g 1 (by omega), g 2 (by omega), g 3 (by omega)⟩

/-! ### how many entries there are -/
def sumF (fs : List FsV) (k : Nat) : Nat := ((fs.take k).map FsV.il).sum
theorem sumF_zero (fs : List FsV) : sumF fs 0 = 0 := by simp [sumF]
theorem sumF_succ (fs : List FsV) (k : Nat) (h : k < fs.length) : sumF fs (k + 1) = sumF fs k + (fs.getD k noFs).il := by
  unfold sumF
  have e : fs.getD k noFs = fs[k] := by simp [List.getD, List.getElem?_eq_getElem h]
  rw [List.take_succ_eq_append_getElem h, List.map_append, List.sum_append_nat, e]
  rfl
theorem drewN_below (w : World) (d : Nat) : Below w.heap.size w (w.drewN d) := ⟨rfl, rfl, rfl, Nat.le_refl _, fun _ _ => rfl⟩

end Go.Proofs.Qxb6602669a.Fs
