/-
  The laws' own test 'appended' answers true where the bytes behind what was there are a value that is read back as the same one. Conditions: the arguments read as bytes and as a value.
-/
import Derived.Test.YtlnpiigdjjadiaaPackReadT
import Derived.Test.YtlnpiigdjjadiaaPackSame
import Derived.BigQuiet
import Derived.Deep.DeepCutAuto
import Derived.Deep.QuietTactic
namespace Go.Proofs.Ytlnpiigdjjadiaa
set_option linter.unusedSimpArgs false
set_option linter.unusedVariables false
open Go.RowKit
set_option maxHeartbeats 800000 in
theorem few_any (a : Option Addr) (len cap : Nat) (w : World) (_h : len ≤ 9223372036854775807) :
    Calls Try.prog 8 #[.slice a len cap] w fun e w' => e = .returned (.bool (decide (len ≤ 200))) ∧ w = w' := by
  go_enter Try.func8, Try.ntmps8
  go_wp2
  go_ret
  refine ⟨?_, rfl⟩
  show Ending.returned (Value.bool (decide ((len : Int) ≤ 200))) = _
  congr 2
  simp
  omega
end Go.Proofs.Ytlnpiigdjjadiaa
