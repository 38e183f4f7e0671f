/-
  THE PROOF OF 'Rows.FnParseNumberedReadsBackWhatIsWrittenCardSaid': the row (its listed variables a premise), then the tied card. The frame after the guide's Derived/Test/MapyProofs.lean and MapyCard.lean, turned to this function; the walk by hand (Qxb6600206aDoorBackWalk).
-/
import Derived.Test.Qxb6600206aDoorRows
import Derived.Test.Qxb6600206aDoorTie
import Derived.Test.Qxb6600206aDoorCards
import Derived.Test.Qxb6600206aDoorLaid
import Derived.Test.Qxb6600206aDoorBackWalk
import Derived.WalkKit
import Derived.ProofKit
import Derived.OpenShut
import Derived.ShutString
import Derived.ChangeOld
import Derived.Below
import Derived.LaidMore
import Derived.Stop.Joined
import Derived.SevenTiedAt
namespace Go.Proofs.Qxb6600206aDoor.fnParseNumberedReadsBackWhatIsWritten
open Go.ChangeShapes Go.WideShapes Go.ChangeAt Go.WideMaps Go.WideElems Go.RowKit
open Go.ChangeMaps (open_string shut_string)
set_option linter.unusedVariables false

set_option maxRecDepth 100000 in
theorem lifted (os : Os) (started : os.Started) (H : Type) (enc : TypeId × Value → H) :
    ReturnsInHanded {} Tryd.checked os 4 .any (fun w args => (Rows.fnParseNumberedReadsBackWhatIsWrittenSpec.pre enc Tryd.prog Tryd.f4 Rows.fnParseNumberedReadsBackWhatIsWrittenRow.domain false w args ∧ laidMetH Tryd.prog Rows.fnParseNumberedReadsBackWhatIsWrittenRow.laid w) ∧ sizedMet enc Tryd.prog Tryd.f4 (OpenSpec.ofChange Rows.fnParseNumberedReadsBackWhatIsWrittenSpec) false w args)
      (Rows.fnParseNumberedReadsBackWhatIsWrittenSpec.post enc Tryd.prog Tryd.f4 false true false false) := by
  refine returnsInHanded_of_change_and (C := Tryd.checked) (X := fun w _ => laidMetH Tryd.prog Rows.fnParseNumberedReadsBackWhatIsWrittenRow.laid w) (fun _ _ _ hh h => h.of_heap hh) Ld.own started (by kernel_rfl) Tryd.func4
    (ChangeSpec.witness_shaped (enc := enc) (C := Tryd.checked) (os := os) (X := fun w _ => laidMetH Tryd.prog Rows.fnParseNumberedReadsBackWhatIsWrittenRow.laid w) false (World.doorLaid Tryd.prog 62 os) #[.string ByteArray.empty, .int .u16 0, .int .i64 0] 8 rfl (World.shaped_of_RefB (by kernel_rfl) (by kernel_rfl)) (by kernel_rfl) (by kernel_rfl) (by kernel_rfl) (Ld.door_met os _)) ?_
  intro W base args ds gs before hval0 hW _ _ hL _
  have hval : ∀ (j : Nat) t v, Tryd.f4.params[j]? = some t → args[j]? = some v → Value.okWide Tryd.prog W .any base t v := hval0
  have hW' := hW
  obtain ⟨p, q, hA0, hV, rfl, hfz, hnd⟩ := hW
  have hA : DataW.TrodAll enc Tryd.prog W 0 (fun _ => true) true Tryd.f4.params.toList args.toList ds p := hA0
  rw [Tryd.params4] at hA hval
  obtain ⟨v0, vs0, d0, ds0, p0, q0, hargs, rfl, rfl, h0, r0⟩ := trodAll_cons hA
  obtain ⟨v1, vs1, d1, ds1, p1, q1, rfl, rfl, rfl, h1, r1⟩ := trodAll_cons r0
  obtain ⟨v2, vs2, d2, ds2, p2, q2, rfl, rfl, rfl, h2, r2⟩ := trodAll_cons r1
  obtain ⟨rfl, rfl, rfl⟩ := trodAll_nil r2
  obtain rfl : args = #[v0, v1, v2] := by cases args; simp_all
  obtain ⟨rfl, rfl⟩ := trodVars_none hV
  obtain ⟨a0, rfl, rfl, rfl, w0⟩ := open_string Tryd.underlying9 (hval 0 9 v0 rfl rfl) h0
  obtain ⟨a1, rfl, rfl, rfl, w1⟩ := open_int Tryd.underlying23 (hval 1 23 v1 rfl rfl) h1
  obtain ⟨a2, rfl, rfl, rfl, w2⟩ := open_int Tryd.underlying3 (hval 2 3 v2 rfl rfl) h2
  have hE := Ld.errs_of_laid hL
  clear hA0 hval0 hL
  refine (BackWalk.walk a0 a1 a2 W w0 w1 w2 hE).mono fun e W' ⟨he, bel⟩ => ?_
  subst he
  exact ⟨_, rfl, _, _, _, [], _, [], hW', trodAll_mk1 (shut_bool Tryd.underlying4 _), (trodAll_cons_mk (shut_string Tryd.underlying9 w0) (trodAll_cons_mk (shut_int Tryd.underlying23 w1) (trodAll_cons_mk (shut_int Tryd.underlying3 w2) trodAll_mk0))), rfl, bel.frame _, fun h => by cases h⟩

theorem over : Rows.fnParseNumberedReadsBackWhatIsWrittenRow.holds Tryd.pinned (OpenSpec.ofChange Rows.fnParseNumberedReadsBackWhatIsWrittenSpec) :=
  OpenClaim.holds_of_wide 4 Tryd.f4 rfl rfl rfl rfl rfl rfl rfl ⟨rfl, rfl, rfl, rfl, rfl⟩ rfl rfl rfl rfl rfl (by kernel_rfl) Tryd.func4 (by kernel_rfl)
    (of_decide_eq_true (by kernel_rfl)) (by unfold Func.isWrapper; first | (rw [if_pos (by decide +kernel)]; kernel_rfl) | (rw [if_neg (by decide +kernel)]; exact ⟨rfl, rfl⟩))
    (fun os started H enc _ => lifted os started H enc)

theorem row_proved : Rows.FnParseNumberedReadsBackWhatIsWrittenSaid := over

theorem proved : Rows.FnParseNumberedReadsBackWhatIsWrittenCardSaid :=
  Claim7.holds_tied_plain_at .later [] [.data, .data, .data, .sentinel, .sentinel] true (true, "ed50b7c2f10885b8272e6fdd07e73fbe201e881e3616c282b2f4a87625ddd544") true
    row_proved (fun _ h => by cases h) (by kernel_rfl) (fun _ h => by cases h) fnParseNumberedReadsBackWhatIsWritten_row_tie rfl ⟨rfl, rfl⟩ (by kernel_rfl) rfl
    (fun f fn hf hfn => by
      obtain rfl : f = 4 := Option.some.inj ((show Tryd.prog.funcNamed Rows.fnParseNumberedReadsBackWhatIsWrittenRow.func = some 4 by kernel_rfl).symm.trans hf) |>.symm
      obtain rfl : fn = Tryd.f4 := (Option.some.inj (Tryd.func4.symm.trans hfn)).symm
      exact ⟨by kernel_rfl, fun j t ht => by
        rw [Tryd.params4] at ht
        have hm : t ∈ [9, 23, 3] := by simpa using Array.mem_of_getElem? ht
        have hall : ([9, 23, 3].all fun u => !Tryd.prog.wantsStandIn u) = true := by kernel_rfl
        exact (show Tryd.prog.wantsStandIn t = false by simpa using List.all_eq_true.1 hall t hm)⟩)
    (by kernel_rfl)
end Go.Proofs.Qxb6600206aDoor.fnParseNumberedReadsBackWhatIsWritten
