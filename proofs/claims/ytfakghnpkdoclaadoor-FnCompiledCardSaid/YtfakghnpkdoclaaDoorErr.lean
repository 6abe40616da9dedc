/-
  The package's errors: newError, newErrorWithReason: some value, nothing that was there turns.
-/
import Derived.Test.YtfakghnpkdoclaaDoorBase
set_option linter.unusedVariables false
set_option linter.unusedSimpArgs false
namespace Go.Proofs.YtfakghnpkdoclaaDoor
open Go.RowKit

set_option maxHeartbeats 400000 in
theorem newError_any (l : Int) (c : ByteArray) (w : World) :
    Calls Tryd.prog 34 #[.int .i64 l, .string c] w fun e w' => e = .returned (.agg #[.int .i64 l, .string c, .string ⟨#[]⟩]) ∧ F0 w w' := by
  go_enter Tryd.func34, Tryd.ntmps34
  go_wp2
  refine bodyPost_ret (v := .agg #[.int .i64 l, .string c, .string ⟨#[]⟩]) (by simp [results, Tryd.results34, go_sem]) rfl ⟨rfl, ?_⟩
  exact Fr.alloc _ _ _
set_option maxHeartbeats 400000 in
theorem newErrorWithReason_any (l : Int) (c r : ByteArray) (w : World) :
    Calls Tryd.prog 42 #[.int .i64 l, .string c, .string r] w fun e w' => e = .returned (.agg #[.int .i64 l, .string c, .string r]) ∧ F0 w w' := by
  go_enter Tryd.func42, Tryd.ntmps42
  go_wp2
  refine bodyPost_ret (v := .agg #[.int .i64 l, .string c, .string r]) (by simp [results, Tryd.results42, go_sem]) rfl ⟨rfl, ?_⟩
  exact Fr.alloc _ _ _
end Go.Proofs.YtfakghnpkdoclaaDoor
