/-
  Plain: reading a joined text back, place by place. No Go in sight.
-/
import Derived.Test.Qxb6600206aJoinPlain
namespace Go.Proofs.Qxb6600206a.Bk
open Go.Proofs.Qxb6600206a.Jp

def tailL (xs : List (List UInt8)) : List UInt8 := xs.flatMap (fun y => 44 :: escL y)
theorem tailL_cons (x : List UInt8) (xs : List (List UInt8)) : tailL (x :: xs) = 44 :: (escL x ++ tailL xs) := by simp [tailL]
theorem escL_cons (c : UInt8) (l : List UInt8) : escL (c :: l) = esc c ++ escL l := by simp [escL]

/-- At place i of the text T: item p has been read as far as its j-th byte. -/
def St (L : List (List UInt8)) (T : List UInt8) (p j i : Nat) : Prop :=
  p < L.length ∧ j ≤ (L.getD p []).length ∧ i ≤ T.length ∧ T.drop i = escL ((L.getD p []).drop j) ++ tailL (L.drop (p + 1))

theorem st_start (L : List (List UInt8)) (h : L ≠ []) : St L (joinL L) 0 0 0 := by
  cases L with
  | nil => exact absurd rfl h
  | cons x xs => exact ⟨by simp, Nat.zero_le _, Nat.zero_le _, by simp [joinL, tailL]⟩

theorem drop_head {T r : List UInt8} {i : Nat} {c : UInt8} (h : T.drop i = c :: r) : i < T.length ∧ T.getD i 0 = c ∧ T.drop (i + 1) = r := by
  have hi : i < T.length := by
    apply Nat.lt_of_not_le
    intro hle
    rw [List.drop_eq_nil_of_le hle] at h
    cases h
  rw [List.drop_eq_getElem_cons hi] at h
  simp only [List.cons.injEq] at h
  exact ⟨hi, by rw [List.getD_eq_getElem?_getD, List.getElem?_eq_getElem hi, Option.getD_some]; exact h.1, h.2⟩

theorem drop_next {l : List UInt8} {j : Nat} (h : j < l.length) : l.drop j = l.getD j 0 :: l.drop (j + 1) := by
  rw [List.drop_eq_getElem_cons h, List.getD_eq_getElem?_getD, List.getElem?_eq_getElem h, Option.getD_some]

theorem st_plain {L : List (List UInt8)} {T : List UInt8} {p j i : Nat} (h : St L T p j i) (hj : j < (L.getD p []).length) (h1 : ¬ (((L.getD p []).getD j 0).toNat : Int) = 44) (h2 : ¬ (((L.getD p []).getD j 0).toNat : Int) = 92) :
    i < T.length ∧ T.getD i 0 = (L.getD p []).getD j 0 ∧ St L T p (j + 1) (i + 1) := by
  obtain ⟨a, b, c, d⟩ := h
  rw [drop_next hj, escL_cons, esc_no _ h1 h2] at d
  obtain ⟨e1, e2, e3⟩ := drop_head d
  exact ⟨e1, e2, a, hj, e1, e3⟩

theorem st_esc {L : List (List UInt8)} {T : List UInt8} {p j i : Nat} (h : St L T p j i) (hj : j < (L.getD p []).length) (h1 : (((L.getD p []).getD j 0).toNat : Int) = 44 ∨ (((L.getD p []).getD j 0).toNat : Int) = 92) :
    i + 1 < T.length ∧ T.getD i 0 = 92 ∧ T.getD (i + 1) 0 = (L.getD p []).getD j 0 ∧ St L T p (j + 1) (i + 2) := by
  obtain ⟨a, b, c, d⟩ := h
  rw [drop_next hj, escL_cons, esc_yes _ h1] at d
  obtain ⟨e1, e2, e3⟩ := drop_head d
  obtain ⟨f1, f2, f3⟩ := drop_head e3
  exact ⟨f1, e2, f2, a, hj, f1, f3⟩

theorem st_comma {L : List (List UInt8)} {T : List UInt8} {p j i : Nat} (h : St L T p j i) (hj : j = (L.getD p []).length) (hi : i < T.length) :
    p + 1 < L.length ∧ T.getD i 0 = 44 ∧ St L T (p + 1) 0 (i + 1) := by
  obtain ⟨a, b, c, d⟩ := h
  have hd : (L.getD p []).drop j = [] := List.drop_eq_nil_of_le (by omega)
  rw [hd] at d
  have hp : p + 1 < L.length := by
    apply Nat.lt_of_not_le
    intro hle
    rw [List.drop_eq_nil_of_le hle] at d
    have := congrArg List.length d
    rw [List.length_drop] at this
    simp [escL, tailL] at this
    omega
  have hL : L.drop (p + 1) = L.getD (p + 1) [] :: L.drop (p + 1 + 1) := by
    rw [List.drop_eq_getElem_cons hp, List.getD_eq_getElem?_getD, List.getElem?_eq_getElem hp, Option.getD_some]
  rw [hL, tailL_cons] at d
  have d' : T.drop i = 44 :: (escL (L.getD (p + 1) []) ++ tailL (L.drop (p + 1 + 1))) := by simpa [escL] using d
  obtain ⟨e1, e2, e3⟩ := drop_head d'
  exact ⟨hp, e2, hp, Nat.zero_le _, e1, by simpa using e3⟩

theorem esc_ne (c : UInt8) : esc c ≠ [] := by unfold esc; split <;> simp

theorem st_stop {L : List (List UInt8)} {T : List UInt8} {p j i : Nat} (h : St L T p j i) (hi : ¬ i < T.length) : j = (L.getD p []).length ∧ p + 1 = L.length := by
  obtain ⟨a, b, c, d⟩ := h
  rw [List.drop_eq_nil_of_le (by omega)] at d
  have h0 := List.append_eq_nil_iff.1 d.symm
  constructor
  · apply Nat.le_antisymm b
    apply Nat.le_of_not_lt
    intro hj
    have h1 := h0.1
    rw [drop_next hj, escL_cons] at h1
    exact esc_ne _ (List.append_eq_nil_iff.1 h1).1
  · apply Nat.le_antisymm a
    apply Nat.le_of_not_lt
    intro hp
    have h1 := h0.2
    rw [List.drop_eq_getElem_cons hp, tailL_cons] at h1
    cases h1

theorem take_snoc {l : List UInt8} {j : Nat} (h : j < l.length) : l.take (j + 1) = l.take j ++ [l.getD j 0] := by
  rw [List.take_succ_eq_append_getElem h, List.getD_eq_getElem?_getD, List.getElem?_eq_getElem h, Option.getD_some]
end Go.Proofs.Qxb6600206a.Bk
