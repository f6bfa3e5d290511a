/-
  What 'open_int' hands over of a uint64 and of an int64, as bounds.
-/
import Derived.Test.Qxb6608657aPlain
import Derived.Test.Qxb6608657aRows
namespace Go.Proofs.Qxb6608657a

theorem word_wf {x : Int} (h : (Lit.int .u64 x).wf = true) : Word x := by
  simp [Lit.wf, IntKind.min, IntKind.max, IntKind.signed, IntKind.bits] at h
  exact ⟨by omega, by omega⟩
theorem sword_wf {x : Int} (h : (Lit.int .i64 x).wf = true) : SWord x := by
  simp [Lit.wf, IntKind.min, IntKind.max, IntKind.signed, IntKind.bits] at h
  exact ⟨by omega, by omega⟩

end Go.Proofs.Qxb6608657a
