/-
  msgp.source.more, whether bytes must be read or not. Conditions: there are so many to come; at most 200000.
-/
import Derived.Test.YtpadbpmnejgckaaDoorMoreZ
namespace Go.Proofs.YtpadbpmnejgckaaDoor
set_option linter.unusedSimpArgs false
set_option linter.unusedVariables false
set_option linter.unusedVariables false
open Go.RowKit
theorem more_any (d s m z : Nat) (ck dep : Int) (V : Value) (bs : List UInt8) (n : Nat) (w : World) (h : RdAny w d s m z ck dep V bs) (hn : n ≤ bs.length) (hn3 : n ≤ 200000) :
    Calls Tryd.prog 142 #[.pointer (some ⟨s, 0, none⟩), .int .i64 n] w fun e w' => e = .returned (.tuple #[]) ∧ MoreP d s m z ck dep V bs n w w' := by
  obtain ⟨DA, dc, cap, at_, pend, rest, rfl, hst⟩ := h
  by_cases hp : n ≤ pend.length
  · exact more_no d s m z ck dep DA dc V cap at_ n pend rest w hst hp
  · obtain ⟨A, rfl⟩ := hst.room.form
    exact more_yes2 d s m z ck dep DA dc A cap at_ n pend rest w hst (by omega) hn hn3
end Go.Proofs.YtpadbpmnejgckaaDoor
