/-
  The closure of impl.StreamGetFloat32. Conditions: the float stands next.
-/
import Derived.Test.YtpadbpmnejgckaaDoorRd
namespace Go.Proofs.YtpadbpmnejgckaaDoor
set_option linter.unusedSimpArgs false
set_option linter.unusedVariables false
set_option linter.unusedVariables false
open Go.RowKit
def encF32 (n : Nat) (a : List UInt8) : Prop := n < 4294967296 ∧ a = UInt8.ofNat 202 :: beL n 4
theorem closF32_any (d s m z : Nat) (ck dep : Int) (V : Value) (n : Nat) (a b : List UInt8) (ha : encF32 n a) (w : World) (h : RdAny w d s m z ck dep V (a ++ b)) :
    Calls Tryd.prog 62 #[.pointer (some ⟨m, 0, none⟩)] w (RdPost d s m z ck dep V (.int .u32 (n : Int)) b w) := by
  obtain ⟨hn, rfl⟩ := ha
  have hbits := bits32' n
  have HF := hide (readF32_any d s m z ck dep V n hn b w h)
  clear h hn
  go_enter Tryd.func62, Tryd.ntmps62
  go_wp2_with (go_at_call 63; go_loud (refine (unhide HF).mono ?_; rintro e w1 ⟨rfl, hl⟩; have HL := hide hl; clear hl))
  go_ret2
  exact ⟨rfl, unhide HL⟩
end Go.Proofs.YtpadbpmnejgckaaDoor
