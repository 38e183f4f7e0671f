/-
  Seat b6600206aD: the walk of FnParseNumberedMatchesDigitModel (3) and its bound zzBytes (5).
-/
import Derived.Test.Qxb6600206aDoorModel
namespace Go.Proofs.Qxb6600206aDoor.MatchWalk
open Go.RowKit Go.Proofs.Qxb6600206aDoor.Pl Go.Proofs.Qxb6600206aDoor.Ps Go.Proofs.Qxb6600206aDoor.Md
set_option linter.unusedVariables false

theorem ret_bool {a b : Bool} (h : a = b) : Ending.returned (.bool a) = .returned (.bool b) := by rw [h]

set_option maxHeartbeats 400000 in
theorem bytes_any (a b : ByteArray) (w : World) (ha : a.size ≤ maxLen) (hb : b.size ≤ maxLen) :
    Calls Tryd.prog 5 #[.string a, .string b] w fun e w' => e = .returned (.bool (decide (a.size + b.size ≤ 1048576))) ∧ w' = w := by
  unfold maxLen at ha hb
  go_enter Tryd.func5, Tryd.ntmps5
  go_wp2
  all_goals (go_ret; exact ⟨ret_bool (by simp; omega), rfl⟩)

set_option maxHeartbeats 1000000 in
theorem walk (s p : ByteArray) (w : World) (w0 : s.size ≤ maxLen) (w1 : p.size ≤ maxLen) (hE : Errs w) :
    Calls Tryd.prog 3 #[.string s, .string p] w fun e w' => e = .returned (.bool true) ∧ Below w.heap.size w w' := by
  have HE : Hid (Errs w) := hE
  clear hE
  by_cases hs : s.size + p.size ≤ 1048576
  · have hd : decide (s.size + p.size ≤ 1048576) = true := by simpa using hs
    go_enter Tryd.func3, Tryd.ntmps3
    go_wp2_with (go_at_call 5; refine (bytes_any _ _ _ w0 w1).mono ?_; rintro e w' ⟨rfl, rfl⟩)
    refine (zz_any _ _ _ (by omega) HE.out).mono ?_
    rintro e w1 ⟨rfl, b1⟩
    obtain ⟨o, ho⟩ : ∃ o, o = numbered s.data.toList p.data.toList := ⟨_, rfl⟩
    rw [← ho]
    have HO : Hid (o = numbered s.data.toList p.data.toList) := ho
    clear ho
    obtain ⟨x, hx⟩ : ∃ x, x = valI o := ⟨_, rfl⟩
    obtain ⟨y, hy⟩ : ∃ y, y = okB o := ⟨_, rfl⟩
    rw [← hx, ← hy]
    have HX : Hid (x = valI o ∧ y = okB o) := ⟨hx, hy⟩
    clear hx hy
    go_wp2_with fail
    refine (model_any _ _ _ (by omega) (by omega)).mono ?_
    rintro e w2 ⟨rfl, b2⟩
    rw [← HO.out, ← HX.out.1, ← HX.out.2]
    have hyy : (y == y) = true := by simp
    have hxx : (x == x) = true := by simp
    go_wp2_with fail
    go_ret
    exact ⟨rfl, below_trans b1 b2⟩
  · have hd : decide (s.size + p.size ≤ 1048576) = false := by simpa using hs
    go_enter Tryd.func3, Tryd.ntmps3
    go_wp2_with (go_at_call 5; refine (bytes_any _ _ _ w0 w1).mono ?_; rintro e w' ⟨rfl, rfl⟩)
    go_ret
    exact ⟨rfl, Below.refl _ _⟩
end Go.Proofs.Qxb6600206aDoor.MatchWalk
