/-
  The plain laws of joinList: no Go in sight.
-/
namespace Go.Proofs.Qxb6600206a.Jp

def esc (c : UInt8) : List UInt8 := if c.toNat = 44 ∨ c.toNat = 92 then [92, c] else [c]
def escL (l : List UInt8) : List UInt8 := l.flatMap esc
def joinL : List (List UInt8) → List UInt8
  | [] => []
  | x :: xs => escL x ++ xs.flatMap (fun y => 44 :: escL y)
/-- Bytes and items. -/
def tot : List (List UInt8) → Nat
  | [] => 0
  | x :: xs => x.length + 1 + tot xs

theorem esc_length (c : UInt8) : (esc c).length ≤ 2 := by unfold esc; split <;> simp
theorem escL_length (l : List UInt8) : (escL l).length ≤ 2 * l.length := by
  induction l with
  | nil => simp [escL]
  | cons x xs ih =>
    have : escL (x :: xs) = esc x ++ escL xs := by simp [escL]
    rw [this, List.length_append, List.length_cons]
    have := esc_length x
    omega
theorem tail_length (xs : List (List UInt8)) : (xs.flatMap (fun y => (44 : UInt8) :: escL y)).length ≤ 2 * tot xs := by
  induction xs with
  | nil => simp
  | cons x xs ih =>
    simp only [List.flatMap_cons, List.length_append, List.length_cons, tot]
    have := escL_length x
    omega
theorem joinL_length (L : List (List UInt8)) : (joinL L).length ≤ 2 * tot L := by
  cases L with
  | nil => simp [joinL]
  | cons x xs =>
    simp only [joinL, List.length_append, tot]
    have := escL_length x
    have := tail_length xs
    omega
theorem tot_take (L : List (List UInt8)) (k : Nat) : tot (L.take k) ≤ tot L := by
  induction L generalizing k with
  | nil => simp
  | cons x xs ih =>
    cases k with
    | zero => simp [tot]
    | succ k => simp only [List.take_succ_cons, tot]; have := ih k; omega
theorem tot_append (L M : List (List UInt8)) : tot (L ++ M) = tot L + tot M := by
  induction L with
  | nil => simp [tot]
  | cons x xs ih => simp only [List.cons_append, tot, ih]; omega
theorem tot_get (L : List (List UInt8)) (k : Nat) : (L.getD k []).length ≤ tot L := by
  induction L generalizing k with
  | nil => simp
  | cons x xs ih =>
    cases k with
    | zero => simp [tot]; omega
    | succ k => have := ih k; simp only [List.getD_cons_succ, tot]; omega
theorem len_le_tot (L : List (List UInt8)) : L.length ≤ tot L := by
  induction L with
  | nil => simp
  | cons x xs ih => simp only [List.length_cons, tot]; omega
theorem tot_take_get (L : List (List UInt8)) (k : Nat) (h : k < L.length) : tot (L.take (k + 1)) = tot (L.take k) + (L.getD k []).length + 1 := by
  have e : L.take (k + 1) = L.take k ++ [L.getD k []] := by
    rw [List.take_succ_eq_append_getElem h]; simp [List.getD, h]
  rw [e, tot_append]
  simp [tot]; omega

theorem joinL_snoc (L : List (List UInt8)) (x : List UInt8) : joinL (L ++ [x]) = joinL L ++ ((if L = [] then [] else [44]) ++ escL x) := by
  cases L with
  | nil => simp [joinL]
  | cons y ys => simp [joinL]
theorem take_get (L : List (List UInt8)) (k : Nat) (h : k < L.length) : L.take (k + 1) = L.take k ++ [L.getD k []] := by
  rw [List.take_succ_eq_append_getElem h]; simp [List.getD, h]
/-- The first item. -/
theorem joinL_first (L : List (List UInt8)) (h : 0 < L.length) : joinL (L.take (0 + 1)) = joinL (L.take 0) ++ escL (L.getD 0 []) := by
  rw [take_get L 0 h, joinL_snoc]; simp
/-- A later item. -/
theorem joinL_next (L : List (List UInt8)) (k : Nat) (h : k < L.length) (hk : 0 < k) : joinL (L.take (k + 1)) = (joinL (L.take k) ++ [44]) ++ escL (L.getD k []) := by
  rw [take_get L k h, joinL_snoc, if_neg]
  · simp
  · intro e
    have := congrArg List.length e
    rw [List.length_take, List.length_nil] at this
    omega
theorem escL_step (l : List UInt8) (k : Nat) (h : k < l.length) : escL (l.take (k + 1)) = escL (l.take k) ++ esc (l.getD k 0) := by
  have e : l.take (k + 1) = l.take k ++ [l.getD k 0] := by
    rw [List.take_succ_eq_append_getElem h, List.getD_eq_getElem?_getD, List.getElem?_eq_getElem h, Option.getD_some]
  rw [e, escL, List.flatMap_append]
  simp [escL]
theorem esc_yes (c : UInt8) (h : (c.toNat : Int) = 44 ∨ (c.toNat : Int) = 92) : esc c = [92, c] := by unfold esc; rw [if_pos (by omega)]
theorem esc_no (c : UInt8) (h : ¬ (c.toNat : Int) = 44) (h' : ¬ (c.toNat : Int) = 92) : esc c = [c] := by unfold esc; rw [if_neg (by omega)]

/-- The seam. -/
theorem seam (A B : List (List UInt8)) (ha : A ≠ []) (hb : B ≠ []) : joinL (A ++ B) = joinL A ++ 44 :: joinL B := by
  cases A with
  | nil => exact absurd rfl ha
  | cons x xs =>
    cases B with
    | nil => exact absurd rfl hb
    | cons y ys => simp [joinL]
end Go.Proofs.Qxb6600206a.Jp
