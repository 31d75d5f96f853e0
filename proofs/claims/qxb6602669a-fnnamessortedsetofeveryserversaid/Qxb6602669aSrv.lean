/-
  THE WALK of 'zzServer' (function 22).
-/
import Derived.Test.Qxb6602669aFs
namespace Go.Proofs.Qxb6602669a.Srv
open Go.RowKit
open Go.Proofs.Qxb6602669a.Fs
set_option linter.unusedVariables false
set_option linter.unusedSimpArgs false

theorem server_any (s : SrvV) (w : World) :
    Calls Try.prog 22 #[.agg #[.string s.name, .int .i64 s.rank, .string s.state]] w fun e w' => e = .returned (.agg #[.string s.name, .int .i64 s.rank, .string s.state]) ∧ w' = (w.alloc (.cells #[.string s.name, .int .i64 s.rank, .string s.state] 53)).alloc (.cells #[.string s.name, .int .i64 s.rank, .string s.state] 70) := by
  go_enter Try.func22, Try.ntmps22
  go_wp2
  refine bodyPost_ret (v := .agg #[.string s.name, .int .i64 s.rank, .string s.state]) (by simp [results, Try.results22, go_sem]) rfl ⟨rfl, rfl⟩

end Go.Proofs.Qxb6602669a.Srv
