/-
  Seat b6600206aD: what the rows' cell 'laid' gives the walks: the two sentinels of strconv; and one start that fits: the heap that the door's own run leaves.
-/
import Derived.Test.Qxb6600206aDoorParse
import Derived.Stop.LaidErr
import Derived.Stop.Joined
import Derived.LaidMore
import Derived.MakeChecks
namespace Go.Proofs.Qxb6600206aDoor.Ld
open Go.RowKit Go.Proofs.Qxb6600206aDoor.Ps

theorem own : ownKnob Tryd.prog.godebug = none := by kernel_rfl
theorem tES : (Tryd.prog.globals[0]?).map (·.type) = some 35 := by kernel_rfl
theorem tER : (Tryd.prog.globals[1]?).map (·.type) = some 35 := by kernel_rfl
theorem cells54 : Tryd.prog.cellsOf 54 = 1 := by kernel_rfl
theorem cells9 : Tryd.prog.cellsOf 9 = 1 := by kernel_rfl
/-- The type's name that a listed sentinel bears. -/
def nmOf {H : Type} : DataW H → String
  | .iface n _ => n
  | _ => "none"
/-- The one row of that name. -/
theorem row52 (u : TypeId) (h : Tryd.prog.typeName? 3 u = some (nmOf (Rows.laid_strconv_ErrRange (H := Unit)))) : u = 52 :=
  typeName_ptr_named (nm := "errors.errorString") (by kernel_rfl) (by kernel_rfl) (by decide) u (h.trans (by kernel_rfl))

theorem errs_of_laid {W : World} (hL : laidMetH Tryd.prog Rows.fnParseNumberedMatchesDigitModelRow.laid W) : Errs W := by
  rw [MakeChecks.laidMetH_plain _ _ _ (by kernel_rfl)] at hL
  have h4 : laidMet Tryd.prog [("strconv.ErrRange", Rows.laid_strconv_ErrRange), ("strconv.ErrSyntax", Rows.laid_strconv_ErrSyntax)] W := laidMet.tail (laidMet.tail (laidMet.tail hL))
  obtain ⟨a1, s1, hv1, -, -, -⟩ := laid_sentinel h4 gER tER Tryd.underlying35 row52 Tryd.underlying52 Tryd.underlying54 rfl rfl Tryd.underlying9 cells54 cells9
  obtain ⟨a0, s0, hv0, -, -, -⟩ := laid_sentinel (laidMet.tail h4) gES tES Tryd.underlying35 row52 Tryd.underlying52 Tryd.underlying54 rfl rfl Tryd.underlying9 cells54 cells9
  exact ⟨⟨_, _, hv0⟩, ⟨_, _, hv1⟩⟩

/-- The door's own heap meets the condition: closed facts. -/
theorem door_met (os : Os) (args : Array Value) : laidMetH Tryd.prog Rows.fnParseNumberedMatchesDigitModelRow.laid ((World.doorLaid Tryd.prog 62 os).forCall (fun _ _ => 0) ⟨#[], args, []⟩).memory :=
  laidMetH_of_parts3 (fuel := 8) (laidMet_of_run' 8 (by kernel_rfl) (by kernel_rfl)) (by kernel_rfl) (by kernel_rfl)
end Go.Proofs.Qxb6600206aDoor.Ld
