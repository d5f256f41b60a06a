/-
  Seat b6600932a: THE ROWS' CLOSED FACTS, CHEAPLY. The head of the translation is a text of 758 signs; asked by 'kernel_rfl' alone, the kernel takes it apart byte by byte: 80 s and 10 GB a row (the lid). Here its list of signs is told once by the law on 'String.ofList', the three facts that read it are stated over whatever text has that list, and all other facts are reckoned as ever: 2.6 GB.
-/
import Derived.Test.Qxb6600932aRows
import Derived.ProofKit
namespace Go.Proofs.Qxb6600932a

/-- The head's signs. -/
def headSigns : List Char := [Char.ofNat 104, Char.ofNat 97, Char.ofNat 114, Char.ofNat 110, Char.ofNat 101, Char.ofNat 115, Char.ofNat 115, Char.ofNat 32, Char.ofNat 97, Char.ofNat 102, Char.ofNat 101, Char.ofNat 49, Char.ofNat 101, Char.ofNat 49, Char.ofNat 54, Char.ofNat 57,
  Char.ofNat 54, Char.ofNat 55, Char.ofNat 54, Char.ofNat 97, Char.ofNat 49, Char.ofNat 49, Char.ofNat 56, Char.ofNat 51, Char.ofNat 98, Char.ofNat 49, Char.ofNat 48, Char.ofNat 52, Char.ofNat 48, Char.ofNat 50, Char.ofNat 102, Char.ofNat 102,
  Char.ofNat 100, Char.ofNat 56, Char.ofNat 54, Char.ofNat 48, Char.ofNat 51, Char.ofNat 99, Char.ofNat 56, Char.ofNat 49, Char.ofNat 51, Char.ofNat 52, Char.ofNat 52, Char.ofNat 100, Char.ofNat 56, Char.ofNat 53, Char.ofNat 99, Char.ofNat 54,
  Char.ofNat 100, Char.ofNat 50, Char.ofNat 99, Char.ofNat 49, Char.ofNat 53, Char.ofNat 55, Char.ofNat 101, Char.ofNat 56, Char.ofNat 102, Char.ofNat 99, Char.ofNat 54, Char.ofNat 57, Char.ofNat 52, Char.ofNat 48, Char.ofNat 48, Char.ofNat 50,
  Char.ofNat 55, Char.ofNat 51, Char.ofNat 100, Char.ofNat 51, Char.ofNat 52, Char.ofNat 52, Char.ofNat 56, Char.ofNat 48, Char.ofNat 32, Char.ofNat 99, Char.ofNat 117, Char.ofNat 116, Char.ofNat 32, Char.ofNat 97, Char.ofNat 116, Char.ofNat 32,
  Char.ofNat 101, Char.ofNat 120, Char.ofNat 97, Char.ofNat 109, Char.ofNat 112, Char.ofNat 108, Char.ofNat 101, Char.ofNat 46, Char.ofNat 99, Char.ofNat 111, Char.ofNat 109, Char.ofNat 47, Char.ofNat 112, Char.ofNat 97, Char.ofNat 115, Char.ofNat 115,
  Char.ofNat 52, Char.ofNat 47, Char.ofNat 112, Char.ofNat 97, Char.ofNat 115, Char.ofNat 115, Char.ofNat 52, Char.ofNat 47, Char.ofNat 122, Char.ofNat 122, Char.ofNat 108, Char.ofNat 97, Char.ofNat 119, Char.ofNat 115, Char.ofNat 95, Char.ofNat 105,
  Char.ofNat 110, Char.ofNat 116, Char.ofNat 101, Char.ofNat 114, Char.ofNat 110, Char.ofNat 97, Char.ofNat 108, Char.ofNat 95, Char.ofNat 106, Char.ofNat 115, Char.ofNat 111, Char.ofNat 110, Char.ofNat 111, Char.ofNat 98, Char.ofNat 106, Char.ofNat 101,
  Char.ofNat 99, Char.ofNat 116, Char.ofNat 95, Char.ofNat 98, Char.ofNat 49, Char.ofNat 46, Char.ofNat 70, Char.ofNat 110, Char.ofNat 73, Char.ofNat 115, Char.ofNat 73, Char.ofNat 110, Char.ofNat 116, Char.ofNat 101, Char.ofNat 103, Char.ofNat 101,
  Char.ofNat 114, Char.ofNat 77, Char.ofNat 97, Char.ofNat 116, Char.ofNat 99, Char.ofNat 104, Char.ofNat 101, Char.ofNat 115, Char.ofNat 65, Char.ofNat 117, Char.ofNat 116, Char.ofNat 111, Char.ofNat 109, Char.ofNat 97, Char.ofNat 116, Char.ofNat 111,
  Char.ofNat 110, Char.ofNat 32, Char.ofNat 101, Char.ofNat 120, Char.ofNat 97, Char.ofNat 109, Char.ofNat 112, Char.ofNat 108, Char.ofNat 101, Char.ofNat 46, Char.ofNat 99, Char.ofNat 111, Char.ofNat 109, Char.ofNat 47, Char.ofNat 112, Char.ofNat 97,
  Char.ofNat 115, Char.ofNat 115, Char.ofNat 52, Char.ofNat 47, Char.ofNat 112, Char.ofNat 97, Char.ofNat 115, Char.ofNat 115, Char.ofNat 52, Char.ofNat 47, Char.ofNat 122, Char.ofNat 122, Char.ofNat 108, Char.ofNat 97, Char.ofNat 119, Char.ofNat 115,
  Char.ofNat 95, Char.ofNat 105, Char.ofNat 110, Char.ofNat 116, Char.ofNat 101, Char.ofNat 114, Char.ofNat 110, Char.ofNat 97, Char.ofNat 108, Char.ofNat 95, Char.ofNat 106, Char.ofNat 115, Char.ofNat 111, Char.ofNat 110, Char.ofNat 111, Char.ofNat 98,
  Char.ofNat 106, Char.ofNat 101, Char.ofNat 99, Char.ofNat 116, Char.ofNat 95, Char.ofNat 98, Char.ofNat 49, Char.ofNat 46, Char.ofNat 70, Char.ofNat 110, Char.ofNat 73, Char.ofNat 115, Char.ofNat 73, Char.ofNat 110, Char.ofNat 116, Char.ofNat 101,
  Char.ofNat 103, Char.ofNat 101, Char.ofNat 114, Char.ofNat 65, Char.ofNat 99, Char.ofNat 99, Char.ofNat 101, Char.ofNat 112, Char.ofNat 116, Char.ofNat 115, Char.ofNat 70, Char.ofNat 111, Char.ofNat 114, Char.ofNat 109, Char.ofNat 97, Char.ofNat 116,
  Char.ofNat 116, Char.ofNat 101, Char.ofNat 100, Char.ofNat 82, Char.ofNat 101, Char.ofNat 102, Char.ofNat 117, Char.ofNat 115, Char.ofNat 101, Char.ofNat 115, Char.ofNat 68, Char.ofNat 101, Char.ofNat 99, Char.ofNat 111, Char.ofNat 114, Char.ofNat 97,
  Char.ofNat 116, Char.ofNat 101, Char.ofNat 100, Char.ofNat 32, Char.ofNat 101, Char.ofNat 120, Char.ofNat 97, Char.ofNat 109, Char.ofNat 112, Char.ofNat 108, Char.ofNat 101, Char.ofNat 46, Char.ofNat 99, Char.ofNat 111, Char.ofNat 109, Char.ofNat 47,
  Char.ofNat 112, Char.ofNat 97, Char.ofNat 115, Char.ofNat 115, Char.ofNat 52, Char.ofNat 47, Char.ofNat 112, Char.ofNat 97, Char.ofNat 115, Char.ofNat 115, Char.ofNat 52, Char.ofNat 47, Char.ofNat 122, Char.ofNat 122, Char.ofNat 108, Char.ofNat 97,
  Char.ofNat 119, Char.ofNat 115, Char.ofNat 95, Char.ofNat 105, Char.ofNat 110, Char.ofNat 116, Char.ofNat 101, Char.ofNat 114, Char.ofNat 110, Char.ofNat 97, Char.ofNat 108, Char.ofNat 95, Char.ofNat 106, Char.ofNat 115, Char.ofNat 111, Char.ofNat 110,
  Char.ofNat 111, Char.ofNat 98, Char.ofNat 106, Char.ofNat 101, Char.ofNat 99, Char.ofNat 116, Char.ofNat 95, Char.ofNat 98, Char.ofNat 49, Char.ofNat 46, Char.ofNat 70, Char.ofNat 110, Char.ofNat 73, Char.ofNat 115, Char.ofNat 73, Char.ofNat 110,
  Char.ofNat 116, Char.ofNat 101, Char.ofNat 103, Char.ofNat 101, Char.ofNat 114, Char.ofNat 83, Char.ofNat 105, Char.ofNat 103, Char.ofNat 110, Char.ofNat 83, Char.ofNat 121, Char.ofNat 109, Char.ofNat 109, Char.ofNat 101, Char.ofNat 116, Char.ofNat 114,
  Char.ofNat 121, Char.ofNat 32, Char.ofNat 101, Char.ofNat 120, Char.ofNat 97, Char.ofNat 109, Char.ofNat 112, Char.ofNat 108, Char.ofNat 101, Char.ofNat 46, Char.ofNat 99, Char.ofNat 111, Char.ofNat 109, Char.ofNat 47, Char.ofNat 112, Char.ofNat 97,
  Char.ofNat 115, Char.ofNat 115, Char.ofNat 52, Char.ofNat 47, Char.ofNat 112, Char.ofNat 97, Char.ofNat 115, Char.ofNat 115, Char.ofNat 52, Char.ofNat 47, Char.ofNat 122, Char.ofNat 122, Char.ofNat 108, Char.ofNat 97, Char.ofNat 119, Char.ofNat 115,
  Char.ofNat 95, Char.ofNat 105, Char.ofNat 110, Char.ofNat 116, Char.ofNat 101, Char.ofNat 114, Char.ofNat 110, Char.ofNat 97, Char.ofNat 108, Char.ofNat 95, Char.ofNat 106, Char.ofNat 115, Char.ofNat 111, Char.ofNat 110, Char.ofNat 111, Char.ofNat 98,
  Char.ofNat 106, Char.ofNat 101, Char.ofNat 99, Char.ofNat 116, Char.ofNat 95, Char.ofNat 98, Char.ofNat 49, Char.ofNat 46, Char.ofNat 70, Char.ofNat 110, Char.ofNat 80, Char.ofNat 108, Char.ofNat 97, Char.ofNat 105, Char.ofNat 110, Char.ofNat 84,
  Char.ofNat 101, Char.ofNat 120, Char.ofNat 116, Char.ofNat 69, Char.ofNat 110, Char.ofNat 100, Char.ofNat 77, Char.ofNat 97, Char.ofNat 116, Char.ofNat 99, Char.ofNat 104, Char.ofNat 101, Char.ofNat 115, Char.ofNat 84, Char.ofNat 119, Char.ofNat 111,
  Char.ofNat 80, Char.ofNat 97, Char.ofNat 115, Char.ofNat 115, Char.ofNat 77, Char.ofNat 111, Char.ofNat 100, Char.ofNat 101, Char.ofNat 108, Char.ofNat 32, Char.ofNat 101, Char.ofNat 120, Char.ofNat 97, Char.ofNat 109, Char.ofNat 112, Char.ofNat 108,
  Char.ofNat 101, Char.ofNat 46, Char.ofNat 99, Char.ofNat 111, Char.ofNat 109, Char.ofNat 47, Char.ofNat 112, Char.ofNat 97, Char.ofNat 115, Char.ofNat 115, Char.ofNat 52, Char.ofNat 47, Char.ofNat 112, Char.ofNat 97, Char.ofNat 115, Char.ofNat 115,
  Char.ofNat 52, Char.ofNat 47, Char.ofNat 122, Char.ofNat 122, Char.ofNat 108, Char.ofNat 97, Char.ofNat 119, Char.ofNat 115, Char.ofNat 95, Char.ofNat 105, Char.ofNat 110, Char.ofNat 116, Char.ofNat 101, Char.ofNat 114, Char.ofNat 110, Char.ofNat 97,
  Char.ofNat 108, Char.ofNat 95, Char.ofNat 106, Char.ofNat 115, Char.ofNat 111, Char.ofNat 110, Char.ofNat 111, Char.ofNat 98, Char.ofNat 106, Char.ofNat 101, Char.ofNat 99, Char.ofNat 116, Char.ofNat 95, Char.ofNat 98, Char.ofNat 49, Char.ofNat 46,
  Char.ofNat 70, Char.ofNat 110, Char.ofNat 80, Char.ofNat 108, Char.ofNat 97, Char.ofNat 105, Char.ofNat 110, Char.ofNat 84, Char.ofNat 101, Char.ofNat 120, Char.ofNat 116, Char.ofNat 69, Char.ofNat 110, Char.ofNat 100, Char.ofNat 70, Char.ofNat 105,
  Char.ofNat 110, Char.ofNat 100, Char.ofNat 115, Char.ofNat 81, Char.ofNat 117, Char.ofNat 111, Char.ofNat 116, Char.ofNat 101, Char.ofNat 100, Char.ofNat 69, Char.ofNat 110, Char.ofNat 100, Char.ofNat 32, Char.ofNat 101, Char.ofNat 120, Char.ofNat 97,
  Char.ofNat 109, Char.ofNat 112, Char.ofNat 108, Char.ofNat 101, Char.ofNat 46, Char.ofNat 99, Char.ofNat 111, Char.ofNat 109, Char.ofNat 47, Char.ofNat 112, Char.ofNat 97, Char.ofNat 115, Char.ofNat 115, Char.ofNat 52, Char.ofNat 47, Char.ofNat 112,
  Char.ofNat 97, Char.ofNat 115, Char.ofNat 115, Char.ofNat 52, Char.ofNat 47, Char.ofNat 122, Char.ofNat 122, Char.ofNat 108, Char.ofNat 97, Char.ofNat 119, Char.ofNat 115, Char.ofNat 95, Char.ofNat 105, Char.ofNat 110, Char.ofNat 116, Char.ofNat 101,
  Char.ofNat 114, Char.ofNat 110, Char.ofNat 97, Char.ofNat 108, Char.ofNat 95, Char.ofNat 106, Char.ofNat 115, Char.ofNat 111, Char.ofNat 110, Char.ofNat 111, Char.ofNat 98, Char.ofNat 106, Char.ofNat 101, Char.ofNat 99, Char.ofNat 116, Char.ofNat 95,
  Char.ofNat 98, Char.ofNat 49, Char.ofNat 46, Char.ofNat 70, Char.ofNat 110, Char.ofNat 80, Char.ofNat 108, Char.ofNat 97, Char.ofNat 105, Char.ofNat 110, Char.ofNat 84, Char.ofNat 101, Char.ofNat 120, Char.ofNat 116, Char.ofNat 69, Char.ofNat 110,
  Char.ofNat 100, Char.ofNat 82, Char.ofNat 101, Char.ofNat 102, Char.ofNat 117, Char.ofNat 115, Char.ofNat 101, Char.ofNat 115, Char.ofNat 66, Char.ofNat 97, Char.ofNat 100, Char.ofNat 66, Char.ofNat 121, Char.ofNat 116, Char.ofNat 101, Char.ofNat 32,
  Char.ofNat 101, Char.ofNat 120, Char.ofNat 97, Char.ofNat 109, Char.ofNat 112, Char.ofNat 108, Char.ofNat 101, Char.ofNat 46, Char.ofNat 99, Char.ofNat 111, Char.ofNat 109, Char.ofNat 47, Char.ofNat 112, Char.ofNat 97, Char.ofNat 115, Char.ofNat 115,
  Char.ofNat 52, Char.ofNat 47, Char.ofNat 112, Char.ofNat 97, Char.ofNat 115, Char.ofNat 115, Char.ofNat 52, Char.ofNat 47, Char.ofNat 122, Char.ofNat 122, Char.ofNat 108, Char.ofNat 97, Char.ofNat 119, Char.ofNat 115, Char.ofNat 95, Char.ofNat 105,
  Char.ofNat 110, Char.ofNat 116, Char.ofNat 101, Char.ofNat 114, Char.ofNat 110, Char.ofNat 97, Char.ofNat 108, Char.ofNat 95, Char.ofNat 106, Char.ofNat 115, Char.ofNat 111, Char.ofNat 110, Char.ofNat 111, Char.ofNat 98, Char.ofNat 106, Char.ofNat 101,
  Char.ofNat 99, Char.ofNat 116, Char.ofNat 95, Char.ofNat 98, Char.ofNat 49, Char.ofNat 46, Char.ofNat 70, Char.ofNat 110, Char.ofNat 86, Char.ofNat 97, Char.ofNat 108, Char.ofNat 117, Char.ofNat 101, Char.ofNat 69, Char.ofNat 110, Char.ofNat 100,
  Char.ofNat 70, Char.ofNat 105, Char.ofNat 110, Char.ofNat 100, Char.ofNat 115, Char.ofNat 69, Char.ofNat 110, Char.ofNat 100, Char.ofNat 79, Char.ofNat 102, Char.ofNat 66, Char.ofNat 117, Char.ofNat 105, Char.ofNat 108, Char.ofNat 116, Char.ofNat 86,
  Char.ofNat 97, Char.ofNat 108, Char.ofNat 117, Char.ofNat 101, Char.ofNat 115, Char.ofNat 32, Char.ofNat 101, Char.ofNat 120, Char.ofNat 97, Char.ofNat 109, Char.ofNat 112, Char.ofNat 108, Char.ofNat 101, Char.ofNat 46, Char.ofNat 99, Char.ofNat 111,
  Char.ofNat 109, Char.ofNat 47, Char.ofNat 112, Char.ofNat 97, Char.ofNat 115, Char.ofNat 115, Char.ofNat 52, Char.ofNat 47, Char.ofNat 112, Char.ofNat 97, Char.ofNat 115, Char.ofNat 115, Char.ofNat 52, Char.ofNat 47, Char.ofNat 122, Char.ofNat 122,
  Char.ofNat 108, Char.ofNat 97, Char.ofNat 119, Char.ofNat 115, Char.ofNat 95, Char.ofNat 105, Char.ofNat 110, Char.ofNat 116, Char.ofNat 101, Char.ofNat 114, Char.ofNat 110, Char.ofNat 97, Char.ofNat 108, Char.ofNat 95, Char.ofNat 106, Char.ofNat 115,
  Char.ofNat 111, Char.ofNat 110, Char.ofNat 111, Char.ofNat 98, Char.ofNat 106, Char.ofNat 101, Char.ofNat 99, Char.ofNat 116, Char.ofNat 95, Char.ofNat 98, Char.ofNat 49, Char.ofNat 46, Char.ofNat 70, Char.ofNat 110, Char.ofNat 86, Char.ofNat 97,
  Char.ofNat 108, Char.ofNat 117, Char.ofNat 101, Char.ofNat 69, Char.ofNat 110, Char.ofNat 100, Char.ofNat 78, Char.ofNat 101, Char.ofNat 115, Char.ofNat 116, Char.ofNat 101, Char.ofNat 100, Char.ofNat 67, Char.ofNat 111, Char.ofNat 110, Char.ofNat 116,
  Char.ofNat 97, Char.ofNat 105, Char.ofNat 110, Char.ofNat 101, Char.ofNat 114, Char.ofNat 115]

theorem head_is : Try.prog.initOrder = String.ofList headSigns := by kernel_rfl
theorem head_list : Try.prog.initOrder.toList = headSigns := by rw [head_is, String.toList_ofList]
theorem make_x (x : String) (h : x.toList = headSigns) : Program.make { Try.prog with initOrder := x } = some Make.cut := by
  delta Program.make
  dsimp only
  rewrite [h]
  kernel_rfl
theorem may_x (x : String) (h : x.toList = headSigns) : Program.mayEnter { Try.prog with initOrder := x } = true := by
  delta Program.mayEnter
  dsimp only
  rewrite [h]
  kernel_rfl
theorem lift_x (x : String) (h : x.toList = headSigns) : Program.liftsFinal { Try.prog with initOrder := x } = false := by
  delta Program.liftsFinal Program.headLifts
  dsimp only
  rewrite [h]
  kernel_rfl

theorem closed6_x (x : String) (h : x.toList = headSigns) : joinedFacts { Try.prog with initOrder := x } 6 Try.f6 Rows.fnPlainTextEndMatchesTwoPassModelSpec Rows.fnPlainTextEndMatchesTwoPassModelRow = true := by
  delta joinedFacts
  rewrite [make_x x h, may_x x h, lift_x x h]
  kernel_rfl
theorem closed6 : joinedFacts Try.pinned.checked.prog 6 Try.f6 Rows.fnPlainTextEndMatchesTwoPassModelSpec Rows.fnPlainTextEndMatchesTwoPassModelRow = true := closed6_x Try.prog.initOrder head_list

theorem closed7_x (x : String) (h : x.toList = headSigns) : joinedFacts { Try.prog with initOrder := x } 7 Try.f7 Rows.fnPlainTextEndFindsQuotedEndSpec Rows.fnPlainTextEndFindsQuotedEndRow = true := by
  delta joinedFacts
  rewrite [make_x x h, may_x x h, lift_x x h]
  kernel_rfl
theorem closed7 : joinedFacts Try.pinned.checked.prog 7 Try.f7 Rows.fnPlainTextEndFindsQuotedEndSpec Rows.fnPlainTextEndFindsQuotedEndRow = true := closed7_x Try.prog.initOrder head_list

theorem closed8_x (x : String) (h : x.toList = headSigns) : joinedFacts { Try.prog with initOrder := x } 8 Try.f8 Rows.fnPlainTextEndRefusesBadByteSpec Rows.fnPlainTextEndRefusesBadByteRow = true := by
  delta joinedFacts
  rewrite [make_x x h, may_x x h, lift_x x h]
  kernel_rfl
theorem closed8 : joinedFacts Try.pinned.checked.prog 8 Try.f8 Rows.fnPlainTextEndRefusesBadByteSpec Rows.fnPlainTextEndRefusesBadByteRow = true := closed8_x Try.prog.initOrder head_list

theorem closed9_x (x : String) (h : x.toList = headSigns) : joinedFacts { Try.prog with initOrder := x } 9 Try.f9 Rows.fnValueEndFindsEndOfBuiltValuesSpec Rows.fnValueEndFindsEndOfBuiltValuesRow = true := by
  delta joinedFacts
  rewrite [make_x x h, may_x x h, lift_x x h]
  kernel_rfl
theorem closed9 : joinedFacts Try.pinned.checked.prog 9 Try.f9 Rows.fnValueEndFindsEndOfBuiltValuesSpec Rows.fnValueEndFindsEndOfBuiltValuesRow = true := closed9_x Try.prog.initOrder head_list

theorem closed10_x (x : String) (h : x.toList = headSigns) : joinedFacts { Try.prog with initOrder := x } 10 Try.f10 Rows.fnValueEndNestedContainersSpec Rows.fnValueEndNestedContainersRow = true := by
  delta joinedFacts
  rewrite [make_x x h, may_x x h, lift_x x h]
  kernel_rfl
theorem closed10 : joinedFacts Try.pinned.checked.prog 10 Try.f10 Rows.fnValueEndNestedContainersSpec Rows.fnValueEndNestedContainersRow = true := closed10_x Try.prog.initOrder head_list

end Go.Proofs.Qxb6600932a
