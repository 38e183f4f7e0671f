/-
  Seat b6600206a: the walk of FnNameEqualIsAnEquivalence (6) and its bound zzBytes (19).
-/
import Derived.Test.Qxb6600206aName
namespace Go.Proofs.Qxb6600206a.EquivWalk
open Go.RowKit Go.Proofs.Qxb6600206a.Pl Go.Proofs.Qxb6600206a.Nm
set_option linter.unusedVariables false

set_option maxHeartbeats 400000 in
theorem bytes_any (a b c : ByteArray) (w : World) (ha : a.size ≤ maxLen) (hb : b.size ≤ maxLen) (hc : c.size ≤ maxLen) :
    Calls Try.prog 19 #[.string a, .string b, .string c] w fun e w' => e = .returned (.bool (decide (a.size + b.size + c.size ≤ 1048576))) ∧ w' = w := by
  unfold maxLen at ha hb hc
  go_enter Try.func19, Try.ntmps19
  go_wp2
  all_goals (go_ret; exact ⟨ret_bool (by simp; omega), rfl⟩)

set_option maxHeartbeats 1000000 in
theorem walk (a0 : ByteArray) (a1 : ByteArray) (a2 : ByteArray) (w0 : a0.size ≤ maxLen) (w1 : a1.size ≤ maxLen) (w2 : a2.size ≤ maxLen) (w : World) :
    Calls Try.prog 6 #[.string a0, .string a1, .string a2] w fun e w' => e = .returned (.bool true) ∧ Grown w w' := by
  by_cases hs : a0.size + a1.size + a2.size ≤ 1048576
  · have hd : decide (a0.size + a1.size + a2.size ≤ 1048576) = true := by simpa using hs
    have r0 := nameEq_refl a0.data.toList
    cases hab : nameEq a0.data.toList a1.data.toList
    · have hba := (nameEq_symm a1.data.toList a0.data.toList).trans hab
      go_enter Try.func6, Try.ntmps6
      go_wp2_with (go_at_call 19; refine (bytes_any _ _ _ _ w0 w1 w2).mono ?_; rintro e w' ⟨rfl, rfl⟩)
      refine (zz_any _ _ _ w0 w0).mono ?_
      rintro e wa ⟨rfl, q1⟩
      go_wp2_with fail
      refine (zz_any _ _ _ w0 w1).mono ?_
      rintro e wb ⟨rfl, q2⟩
      go_wp2_with fail
      refine (zz_any _ _ _ w1 w0).mono ?_
      rintro e wc ⟨rfl, q3⟩
      go_wp2_with fail
      go_ret
      exact ⟨rfl, ((q1.trans q2).trans q3).1⟩
    · have hba := (nameEq_symm a1.data.toList a0.data.toList).trans hab
      cases hbc : nameEq a1.data.toList a2.data.toList
      · go_enter Try.func6, Try.ntmps6
        go_wp2_with (go_at_call 19; refine (bytes_any _ _ _ _ w0 w1 w2).mono ?_; rintro e w' ⟨rfl, rfl⟩)
        refine (zz_any _ _ _ w0 w0).mono ?_
        rintro e wa ⟨rfl, q1⟩
        go_wp2_with fail
        refine (zz_any _ _ _ w0 w1).mono ?_
        rintro e wb ⟨rfl, q2⟩
        go_wp2_with fail
        refine (zz_any _ _ _ w1 w0).mono ?_
        rintro e wc ⟨rfl, q3⟩
        go_wp2_with fail
        refine (zz_any _ _ _ w1 w2).mono ?_
        rintro e wd ⟨rfl, q4⟩
        go_wp2_with fail
        go_ret
        exact ⟨rfl, (((q1.trans q2).trans q3).trans q4).1⟩
      · have hac := nameEq_trans hab hbc
        go_enter Try.func6, Try.ntmps6
        go_wp2_with (go_at_call 19; refine (bytes_any _ _ _ _ w0 w1 w2).mono ?_; rintro e w' ⟨rfl, rfl⟩)
        refine (zz_any _ _ _ w0 w0).mono ?_
        rintro e wa ⟨rfl, q1⟩
        go_wp2_with fail
        refine (zz_any _ _ _ w0 w1).mono ?_
        rintro e wb ⟨rfl, q2⟩
        go_wp2_with fail
        refine (zz_any _ _ _ w1 w0).mono ?_
        rintro e wc ⟨rfl, q3⟩
        go_wp2_with fail
        refine (zz_any _ _ _ w1 w2).mono ?_
        rintro e wd ⟨rfl, q4⟩
        go_wp2_with fail
        refine (zz_any _ _ _ w0 w2).mono ?_
        rintro e we ⟨rfl, q5⟩
        go_wp2_with fail
        go_ret
        exact ⟨rfl, ((((q1.trans q2).trans q3).trans q4).trans q5).1⟩
  · have hd : decide (a0.size + a1.size + a2.size ≤ 1048576) = false := by simpa using hs
    go_enter Try.func6, Try.ntmps6
    go_wp2_with (go_at_call 19; refine (bytes_any _ _ _ _ w0 w1 w2).mono ?_; rintro e w' ⟨rfl, rfl⟩)
    go_ret
    exact ⟨rfl, Grown.refl _⟩
end Go.Proofs.Qxb6600206a.EquivWalk
