/-
  THE LISTED TABLES of this seat's rows: from the condition to what the walks ask; the door's own heap meets the condition.
-/
import Derived.Test.Qxb6603079aDoorState
import Derived.ProofKit
import Derived.LaidMore
import Derived.OpenShut
import Derived.Stop.Joined
import Derived.Stop.LaidErr
import Derived.Lib.LaidTab
namespace Go.Proofs.Qxb6603079aDoor
open Go.RowKit

theorem own : ownKnob Tryd.prog.godebug = none := by kernel_rfl
def db32 : List Int := [0, 1, 28, 2, 29, 14, 24, 3, 30, 22, 20, 15, 25, 17, 4, 8, 31, 27, 13, 23, 21, 19, 16, 7, 26, 12, 18, 6, 11, 5, 10, 9]
def db64 : List Int := [0, 1, 56, 2, 57, 49, 28, 3, 61, 58, 42, 50, 38, 29, 17, 4, 62, 47, 59, 36, 45, 43, 51, 22, 53, 39, 33, 30, 24, 18, 12, 5, 63, 55, 48, 27, 60, 41, 37, 16, 46, 35, 44, 21, 52, 32, 23, 11, 54, 26, 40, 15, 34, 20, 31, 10, 25, 14, 19, 9, 13, 8, 7, 6]
def laidL : List (String × DataW Unit) := Rows.fnFormattedPositionalRow.laid
def nm32 : String := match laidL with
  | (n, _) :: _ => n
  | _ => ""
def nm64 : String := match laidL with
  | _ :: (n, _) :: _ => n
  | _ => ""
theorem laid_eq : laidL = [(nm32, Lib.tabData .u8 db32), (nm64, Lib.tabData .u8 db64), (powName, Lib.tabData .u64 Lib.pow10Tab)] := by kernel_rfl
theorem g0Type : (Tryd.prog.globals[0]?).map (·.type) = some 68 := by kernel_rfl
theorem cells43 : Tryd.prog.cellsOf 43 = 1 := by kernel_rfl
theorem cells68 : Tryd.prog.cellsOf 68 = 20 := by kernel_rfl

/-- WHAT THE CONDITION GIVES THE WALKS. -/
theorem tab_of_laid {W : World} (h : laidMetH Tryd.prog laidL W) : Tab W := by
  rw [MakeChecks.laidMetH_plain _ _ _ (by kernel_rfl), laid_eq] at h
  have tp := Lib.tabIs_of_head pow_global g0Type Tryd.underlying68 Tryd.underlying43 cells43 cells68 h.tail.tail
  refine ⟨?_, tp⟩
  have c0 := tp.cell pow_global 0 (by decide)
  rcases Nat.lt_or_ge 0 W.heap.size with h' | h'
  · exact h'
  · simp [World.cell?, Array.getElem?_eq_none h'] at c0

/-- The door's own heap meets the condition. -/
theorem door_met (os : Os) (args : Array Value) : laidMetH Tryd.prog laidL ((World.doorLaid Tryd.prog 24 os).forCall (fun _ _ => 0) ⟨#[], args, []⟩).memory :=
  laidMetH_of_parts3 (fuel := 8) (laidMet_of_run' 8 (by kernel_rfl) (by kernel_rfl)) (by kernel_rfl) (by kernel_rfl)
end Go.Proofs.Qxb6603079aDoor
