/-
  'zzc := make([]byte, n); copy(zzc, a)': the new block, written out; what it holds.
-/
import Derived.Test.Qxb6602669aShare
import Derived.Laws.CopyOwn
import Derived.Deep.OwnRows
import Derived.OpenShut
namespace Go.Proofs.Qxb6602669a.New
open Go.RowKit
open Go.Proofs.Qxb6602669a.Lcp Go.Proofs.Qxb6602669a.Share
set_option linter.unusedVariables false
set_option linter.unusedSimpArgs false

/-- WHAT THE WALK IS TOLD OF A SLICE OF INTEGERS THAT CAME IN. -/
def IsRow (k : IntKind) (w : World) (a : Option Addr) (len cap : Nat) (zs : List Int) : Prop :=
  (a = none ∧ len = 0 ∧ cap = 0 ∧ zs = []) ∨
  ∃ x, a = some x ∧ len ≤ cap ∧ cap ≤ maxLen ∧ zs.length = cap ∧ (∀ i, i < zs.length → w.cell? (x.add i) = some (.int k (zs.getD i 0))) ∧ ∀ n ∈ zs, (Lit.int k n).wf = true

theorem IsRow.le {k : IntKind} {w : World} {a : Option Addr} {len cap : Nat} {zs : List Int} (h : IsRow k w a len cap zs) : len ≤ maxLen := by
  rcases h with ⟨_, rfl, _, _⟩ | ⟨x, _, h1, h2, _⟩
  · exact Nat.zero_le _
  · omega

/-- The cells of a row of bytes. -/
def byteCells (xs : List Int) : Array Value := (xs.map (Value.int .u8)).toArray
theorem byteCells_size (xs : List Int) : (byteCells xs).size = xs.length := by simp [byteCells]
theorem byteCells_get (xs : List Int) (i : Nat) (h : i < xs.length) : (byteCells xs)[i]? = some (.int .u8 (xs.getD i 0)) := by
  simp [byteCells, List.getD, List.getElem?_eq_getElem h]

theorem info5 : (Try.prog.info? 5).map (fun i => (i.zero, i.size, i.bytes)) = some (some (.int .u8 0), 1, 1) := by kernel_rfl
theorem size5 : (Try.prog.info? 5).map (·.size) = some 1 := by kernel_rfl

theorem setRow_new (w : World) (c1 c2 : Array Value) (t : TypeId) : (w.alloc (.cells c1 t)).setRow w.heap.size c2 = w.alloc (.cells c2 t) := by
  have h : (w.heap.push (.cells c1 t)).modify w.heap.size (fun | .cells _ elem frozen => .cells c2 elem frozen | o => o) = w.heap.push (.cells c2 t) := by
    apply Array.ext_getElem?
    intro i
    rw [Array.getElem?_modify]
    by_cases hi : w.heap.size = i
    · subst hi
      simp
    · rw [if_neg hi, Array.getElem?_push, Array.getElem?_push, if_neg (fun e => hi e.symm), if_neg (fun e => hi e.symm)]
  show ({ w with heap := _ } : World) = { w with heap := _ }
  exact congrArg (fun q => ({ w with heap := q } : World)) h

theorem getD_take (zs : List Int) (n i : Nat) (h : i < n) : (zs.take n).getD i 0 = zs.getD i 0 := by
  simp [List.getD, List.getElem?_take, h]

/-- The copy into the new block. -/
theorem copy_new (w : World) (x : Addr) (n cap : Nat) (zs : List Int) (hn : n ≤ zs.length) (hc : ∀ i, i < zs.length → w.cell? (x.add i) = some (.int .u8 (zs.getD i 0))) :
    (Builtin.copy_ #[40, 40] 3 #[.slice (some ⟨w.heap.size, 0, none⟩) n n, .slice (some x) n cap]).run Try.prog (w.alloc (.cells (madeCells #[.int .u8 0] n) 5)) = .ok (goInt n) (w.alloc (.cells (byteCells (zs.take n)) 5)) := by
  have hlen : ((zs.take n).map (Value.int .u8)).length = n := by simp; omega
  have h := run_copy_row (P := Try.prog) (w.alloc (.cells (madeCells #[.int .u8 0] n) 5)) 40 40 3 5 w.heap.size 0 n n x n cap (madeCells #[.int .u8 0] n) 5 ((zs.take n).map (Value.int .u8)) Try.underlying40 size5
    (by show (w.heap.push _)[w.heap.size]? = _; simp) (by rw [hlen]; exact (Nat.min_self n).symm) (fun j v hj => by
      have hjn : j < n := by have := (List.getElem?_eq_some_iff.1 hj).1; omega
      have hcj := hc j (by omega)
      rw [World.cell?_alloc_lt w _ _ (World.block_lt_of_cell? w _ hcj), hcj]
      simp [List.getElem?_take, hjn, show j < zs.length by omega] at hj
      rw [← hj]
      simp [List.getD, show j < zs.length by omega]) (by rw [hlen, size_madeCells]; omega) (ints_oneCell _ _)
  rw [h, hlen, setRow_new]
  have e : (madeCells #[.int .u8 0] n).toList.drop n = ([] : List Value) := List.drop_eq_nil_of_le (by rw [Array.length_toList, size_madeCells]; exact Nat.le_refl _)
  simp only [List.take_zero, List.nil_append, Nat.zero_add, e, List.append_nil]
  rfl

/-- What the new block holds. -/
theorem row_new (w : World) (n : Nat) (xs : List Int) (hl : xs.length = n) (hm : n ≤ 1048576) (hb : Bytes xs) : Row (w.alloc (.cells (byteCells xs) 5)) w.heap.size 0 n n xs :=
  ⟨hl, Nat.le_refl _, hm, fun i hi => by rw [Nat.zero_add, World.cell?_alloc_new]; exact byteCells_get xs i (by omega), hb⟩

theorem row_alloc {w : World} {b o n c : Nat} {xs : List Int} (r : Row w b o n c xs) (ob : Obj) : Row (w.alloc ob) b o n c xs :=
  ⟨r.len, r.cap, r.lim, fun i hi => by rw [World.cell?_alloc_lt w _ _ (World.block_lt_of_cell? w _ (r.cells i hi))]; exact r.cells i hi, r.bytes⟩

theorem bytes_of_wf {zs : List Int} (h : ∀ n ∈ zs, (Lit.int .u8 n).wf = true) (k : Nat) : Bytes (zs.take k) :=
  fun n hn => bounds_u8 (h n (List.mem_of_mem_take hn))
end Go.Proofs.Qxb6602669a.New
