/-
  Seat b6001440a: the walk of FnBeatsIsStrictTotal (5) and its bound zzBytes (13).
-/
import Derived.Test.Qxb6001440aBeats
import Derived.WideShapes
namespace Go.Proofs.Qxb6001440a.TotalWalk
open Go.RowKit Go.Proofs.Qxb6001440a.Pl Go.Proofs.Qxb6001440a.Sp Go.Proofs.Qxb6001440a.Ps Go.Proofs.Qxb6001440a.Bt
set_option linter.unusedVariables false

set_option maxHeartbeats 400000 in
theorem bytes_any (a b : ByteArray) (w : World) (ha : a.size ≤ maxLen) (hb : b.size ≤ maxLen) :
    Calls Try.prog 13 #[.string a, .string b] w fun e w' => e = .returned (.bool (decide (a.size + b.size ≤ 1048576))) ∧ w' = w := by
  unfold maxLen at ha hb
  go_enter Try.func13, Try.ntmps13
  go_wp2
  all_goals (go_ret; exact ⟨ret_bool (by simp; omega), rfl⟩)

/-- What the one pattern answers against the other. -/
def ans (a b : ByteArray) : Bool := beatsF a.toList a.size (isGlob a) (wild a) (plus a) b.toList b.size (isGlob b) (wild b) (plus b)
theorem ans_same {a b : ByteArray} (h : (a.toList == b.toList) = true) : ans a b = false ∧ ans b a = false := by
  have e : a = b := Go.WideShapes.bytes_inj (by have := eq_of_beq h; rw [ByteArray.toList_eq, ByteArray.toList_eq] at this; exact this)
  subst e
  exact ⟨beats_irrefl _ _ _ _ _, beats_irrefl _ _ _ _ _⟩
theorem ans_other {a b : ByteArray} (h : (a.toList == b.toList) = false) : ans a b = !ans b a := by
  rw [beq_eq_false_iff_ne] at h
  exact beats_total h _ _ _ _ _ _ _ _

theorem zz_ans (w : World) (b1 b2 : Nat) (t1 t2 : ByteArray) (s1 : t1.size ≤ 65536) (s2 : t2.size ≤ 65536) (h1 : PatAt w b1 t1) (h2 : PatAt w b2 t2) :
    Calls Try.prog 14 #[.pointer (some ⟨b1, 0, none⟩), .pointer (some ⟨b2, 0, none⟩)] w fun e w' => e = .returned (.bool (ans t1 t2)) ∧ Below w.heap.size w w' :=
  zzBeats_any w b1 b2 t1 t2 s1 s2 h1 h2

set_option maxHeartbeats 1000000 in
theorem walk (a b : ByteArray) (w : World) (w0 : a.size ≤ maxLen) (w1 : b.size ≤ maxLen) :
    Calls Try.prog 5 #[.string a, .string b] w fun e w' => e = .returned (.bool true) ∧ Below w.heap.size w w' := by
  by_cases hs : a.size + b.size ≤ 1048576
  · have hd : decide (a.size + b.size ≤ 1048576) = true := by simpa using hs
    by_cases ha : a.size ≤ 65536
    · by_cases hb : b.size ≤ 65536
      · go_enter Try.func5, Try.ntmps5
        go_wp2_with (go_at_call 13; refine (bytes_any _ _ _ w0 w1).mono ?_; rintro e w' ⟨rfl, rfl⟩)
        refine (build_any a _ ha).mono ?_
        rintro e w2 ⟨b1, rfl, p1, k1⟩
        have HP1 : Hid (PatAt w2 b1 a) := p1
        have HB1 : Hid (Below w'.heap.size w' w2) := k1
        clear p1 k1
        go_wp2_with fail
        refine (build_any b _ hb).mono ?_
        rintro e w3 ⟨b2, rfl, p2, k2⟩
        have HP2 : Hid (PatAt w3 b2 b) := p2
        have HP1' : Hid (PatAt w3 b1 a) := HP1.out.below k2
        have HB2 : Hid (Below w'.heap.size w' w3) := below_trans HB1.out k2
        clear p2 k2 HP1 HB1
        go_wp2_with fail
        refine (zz_ans _ b1 b2 a b ha hb HP1'.out HP2.out).mono ?_
        rintro e w4 ⟨rfl, k3⟩
        have HP3 : Hid (PatAt w4 b2 b) := HP2.out.below k3
        have HP4 : Hid (PatAt w4 b1 a) := HP1'.out.below k3
        have HB3 : Hid (Below w'.heap.size w' w4) := below_trans HB2.out k3
        clear k3 HP2 HP1' HB2
        obtain ⟨r1, hr1⟩ : ∃ r, r = ans a b := ⟨_, rfl⟩
        obtain ⟨r2, hr2⟩ : ∃ r, r = ans b a := ⟨_, rfl⟩
        rw [← hr1]
        have HA : Hid ((a.toList == b.toList) = true → r1 = false ∧ r2 = false) := fun h => by rw [hr1, hr2]; exact ans_same h
        have HO : Hid ((a.toList == b.toList) = false → r1 = !r2) := fun h => by rw [hr1, hr2]; exact ans_other h
        have HR2 : Hid (r2 = ans b a) := hr2
        clear hr1 hr2
        go_wp2_with fail
        refine (zz_ans _ b2 b1 b a hb ha HP3.out HP4.out).mono ?_
        rintro e w5 ⟨rfl, k4⟩
        rw [← HR2.out]
        have HB4 : Hid (Below w'.heap.size w' w5) := below_trans HB3.out k4
        clear k4 HP3 HP4 HB3
        cases hq : (a.toList == b.toList) with
        | true =>
          obtain ⟨e1, e2⟩ := HA.out hq
          subst e1 e2
          clear HA HO HR2
          go_wp2_with fail
          go_ret
          exact ⟨rfl, HB4.out⟩
        | false =>
          have e1 := HO.out hq
          subst e1
          clear HA HO HR2
          cases r2 with
          | true =>
            go_wp2_with fail
            go_ret
            exact ⟨rfl, HB4.out⟩
          | false =>
            go_wp2_with fail
            go_ret
            exact ⟨rfl, HB4.out⟩
      · go_enter Try.func5, Try.ntmps5
        go_wp2_with (go_at_call 13; refine (bytes_any _ _ _ w0 w1).mono ?_; rintro e w' ⟨rfl, rfl⟩)
        go_ret
        exact ⟨rfl, Below.refl _ _⟩
    · go_enter Try.func5, Try.ntmps5
      go_wp2_with (go_at_call 13; refine (bytes_any _ _ _ w0 w1).mono ?_; rintro e w' ⟨rfl, rfl⟩)
      go_ret
      exact ⟨rfl, Below.refl _ _⟩
  · have hd : decide (a.size + b.size ≤ 1048576) = false := by simpa using hs
    go_enter Try.func5, Try.ntmps5
    go_wp2_with (go_at_call 13; refine (bytes_any _ _ _ w0 w1).mono ?_; rintro e w' ⟨rfl, rfl⟩)
    go_ret
    exact ⟨rfl, Below.refl _ _⟩
end Go.Proofs.Qxb6001440a.TotalWalk
