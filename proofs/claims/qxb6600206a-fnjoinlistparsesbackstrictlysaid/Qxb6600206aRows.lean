/-
  No cell of these rows narrows 'for every input' (looked for: loops, veiled, ifaces, maps, wideKeys, modest, calm, conditions, laid).
  DERIVED. THE GIVEN ROWS OF THIS SEAT. 5 by the template 'for every input the law returns true; each argument reads behind the call as it read before'; 0 by the template 'total and deterministic' (their statements: Qxb6600206aTotals.lean).
  GIVEN WITH THE SEED: the statements are not yours to turn. If you find one false, say at which input.
  Laid BY PROGRAM, IN A SANDBOX (cutbox-rows.mjs): the forced cells as the released guide's own fill.sh prints them over the translation 09d22b20c5747f02… (all of the seat's roots in one cut). By AI agents, Wed Nov 11 2026. No macro, syntax, notation, axiom, sorry.
-/
import Derived.Test.Qxb6600206aChecked
import GoSem.Claim
import GoSem.ClaimJoined
import GoSem.ClaimMapViews
import Derived.JoinedTies
import Derived.KernelRfl
namespace Go.Proofs.Qxb6600206a
/- THE CELL 'sum', in the pinned program and in every row, IS THE sha256 OF THE DUMP (.gsa) THAT Qxb6600206aProg.lean LOADS. Nothing in Lean hashes anything: it is a label: what it is worth is what the hold of that sum in a sandbox is worth. -/
noncomputable def Try.pinned : Pinned := { name := "qxb6600206a", sum := "09d22b20c5747f02f28d90ad1711feadca2ccae04f0172a55b167f1dec7c0ef2", checked := Try.checked }
namespace Rows
def none {H : Type} : Left H := { results := [], args := [] }

/-- 'zzlaws_pkg_dnsmsg_b1.FnJoinListParsesBackStrictly': WHATEVER THE INPUT: true; the input reads as it did. -/
def fnJoinListParsesBackStrictlySpec : ChangeSpec := { name := "fnJoinListParsesBackStrictly", fn := fun _ => fun
  | [d] => { results := [.lit (.bool true)], args := [d] }
  | _ => none }
def fnJoinListParsesBackStrictlyRow : OpenClaim := { program := "qxb6600206a", sum := "09d22b20c5747f02f28d90ad1711feadca2ccae04f0172a55b167f1dec7c0ef2", func := "example.com/quietdig/quietdig/zzlaws_pkg_dnsmsg_b1.FnJoinListParsesBackStrictly", spec := "fnJoinListParsesBackStrictly", apart := false }
def FnJoinListParsesBackStrictlySaid : Prop := fnJoinListParsesBackStrictlyRow.holds Try.pinned (OpenSpec.ofChange fnJoinListParsesBackStrictlySpec)

/-- ITS FALSE NEIGHBOUR: 'it returns false'. Refute it at one input. -/
def fnJoinListParsesBackStrictlyWrong : ChangeSpec := { name := "fnJoinListParsesBackStrictly", fn := fun _ => fun
  | [d] => { results := [.lit (.bool false)], args := [d] }
  | _ => none }
def FnJoinListParsesBackStrictlyWrongFalsely : Prop := fnJoinListParsesBackStrictlyRow.holds Try.pinned (OpenSpec.ofChange fnJoinListParsesBackStrictlyWrong)

/-- 'zzlaws_pkg_dnsmsg_b1.FnJoinListSplitsAtTheSeam': WHATEVER THE INPUT: true; the input reads as it did. -/
def fnJoinListSplitsAtTheSeamSpec : ChangeSpec := { name := "fnJoinListSplitsAtTheSeam", fn := fun _ => fun
  | [d1, d2] => { results := [.lit (.bool true)], args := [d1, d2] }
  | _ => none }
def fnJoinListSplitsAtTheSeamRow : OpenClaim := { program := "qxb6600206a", sum := "09d22b20c5747f02f28d90ad1711feadca2ccae04f0172a55b167f1dec7c0ef2", func := "example.com/quietdig/quietdig/zzlaws_pkg_dnsmsg_b1.FnJoinListSplitsAtTheSeam", spec := "fnJoinListSplitsAtTheSeam", apart := false }
def FnJoinListSplitsAtTheSeamSaid : Prop := fnJoinListSplitsAtTheSeamRow.holds Try.pinned (OpenSpec.ofChange fnJoinListSplitsAtTheSeamSpec)

/-- ITS FALSE NEIGHBOUR: 'it returns false'. Refute it at one input. -/
def fnJoinListSplitsAtTheSeamWrong : ChangeSpec := { name := "fnJoinListSplitsAtTheSeam", fn := fun _ => fun
  | [d1, d2] => { results := [.lit (.bool false)], args := [d1, d2] }
  | _ => none }
def FnJoinListSplitsAtTheSeamWrongFalsely : Prop := fnJoinListSplitsAtTheSeamRow.holds Try.pinned (OpenSpec.ofChange fnJoinListSplitsAtTheSeamWrong)

/-- 'zzlaws_pkg_dnsmsg_b1.FnNameEqualMatchesFoldModel': WHATEVER THE INPUT: true; the input reads as it did. -/
def fnNameEqualMatchesFoldModelSpec : ChangeSpec := { name := "fnNameEqualMatchesFoldModel", fn := fun _ => fun
  | [d1, d2] => { results := [.lit (.bool true)], args := [d1, d2] }
  | _ => none }
def fnNameEqualMatchesFoldModelRow : OpenClaim := { program := "qxb6600206a", sum := "09d22b20c5747f02f28d90ad1711feadca2ccae04f0172a55b167f1dec7c0ef2", func := "example.com/quietdig/quietdig/zzlaws_pkg_dnsmsg_b1.FnNameEqualMatchesFoldModel", spec := "fnNameEqualMatchesFoldModel", apart := false }
def FnNameEqualMatchesFoldModelSaid : Prop := fnNameEqualMatchesFoldModelRow.holds Try.pinned (OpenSpec.ofChange fnNameEqualMatchesFoldModelSpec)

/-- ITS FALSE NEIGHBOUR: 'it returns false'. Refute it at one input. -/
def fnNameEqualMatchesFoldModelWrong : ChangeSpec := { name := "fnNameEqualMatchesFoldModel", fn := fun _ => fun
  | [d1, d2] => { results := [.lit (.bool false)], args := [d1, d2] }
  | _ => none }
def FnNameEqualMatchesFoldModelWrongFalsely : Prop := fnNameEqualMatchesFoldModelRow.holds Try.pinned (OpenSpec.ofChange fnNameEqualMatchesFoldModelWrong)

/-- 'zzlaws_pkg_dnsmsg_b1.FnNameEqualIsAnEquivalence': WHATEVER THE INPUT: true; the input reads as it did. -/
def fnNameEqualIsAnEquivalenceSpec : ChangeSpec := { name := "fnNameEqualIsAnEquivalence", fn := fun _ => fun
  | [d1, d2, d3] => { results := [.lit (.bool true)], args := [d1, d2, d3] }
  | _ => none }
def fnNameEqualIsAnEquivalenceRow : OpenClaim := { program := "qxb6600206a", sum := "09d22b20c5747f02f28d90ad1711feadca2ccae04f0172a55b167f1dec7c0ef2", func := "example.com/quietdig/quietdig/zzlaws_pkg_dnsmsg_b1.FnNameEqualIsAnEquivalence", spec := "fnNameEqualIsAnEquivalence", apart := false }
def FnNameEqualIsAnEquivalenceSaid : Prop := fnNameEqualIsAnEquivalenceRow.holds Try.pinned (OpenSpec.ofChange fnNameEqualIsAnEquivalenceSpec)

/-- ITS FALSE NEIGHBOUR: 'it returns false'. Refute it at one input. -/
def fnNameEqualIsAnEquivalenceWrong : ChangeSpec := { name := "fnNameEqualIsAnEquivalence", fn := fun _ => fun
  | [d1, d2, d3] => { results := [.lit (.bool false)], args := [d1, d2, d3] }
  | _ => none }
def FnNameEqualIsAnEquivalenceWrongFalsely : Prop := fnNameEqualIsAnEquivalenceRow.holds Try.pinned (OpenSpec.ofChange fnNameEqualIsAnEquivalenceWrong)

/-- 'zzlaws_pkg_dnsmsg_b1.FnNameEqualIgnoresCaseFlips': WHATEVER THE INPUT: true; the input reads as it did. -/
def fnNameEqualIgnoresCaseFlipsSpec : ChangeSpec := { name := "fnNameEqualIgnoresCaseFlips", fn := fun _ => fun
  | [d1, d2, d3] => { results := [.lit (.bool true)], args := [d1, d2, d3] }
  | _ => none }
def fnNameEqualIgnoresCaseFlipsRow : OpenClaim := { program := "qxb6600206a", sum := "09d22b20c5747f02f28d90ad1711feadca2ccae04f0172a55b167f1dec7c0ef2", func := "example.com/quietdig/quietdig/zzlaws_pkg_dnsmsg_b1.FnNameEqualIgnoresCaseFlips", spec := "fnNameEqualIgnoresCaseFlips", apart := false }
def FnNameEqualIgnoresCaseFlipsSaid : Prop := fnNameEqualIgnoresCaseFlipsRow.holds Try.pinned (OpenSpec.ofChange fnNameEqualIgnoresCaseFlipsSpec)

/-- ITS FALSE NEIGHBOUR: 'it returns false'. Refute it at one input. -/
def fnNameEqualIgnoresCaseFlipsWrong : ChangeSpec := { name := "fnNameEqualIgnoresCaseFlips", fn := fun _ => fun
  | [d1, d2, d3] => { results := [.lit (.bool false)], args := [d1, d2, d3] }
  | _ => none }
def FnNameEqualIgnoresCaseFlipsWrongFalsely : Prop := fnNameEqualIgnoresCaseFlipsRow.holds Try.pinned (OpenSpec.ofChange fnNameEqualIgnoresCaseFlipsWrong)

end Rows
end Go.Proofs.Qxb6600206a
