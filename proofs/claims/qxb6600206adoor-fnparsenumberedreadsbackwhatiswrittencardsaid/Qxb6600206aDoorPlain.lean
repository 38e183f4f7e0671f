/-
  The plain laws of seat b6600206aD: reading a prefix and a decimal number of 16 bits. No Go in sight (the library's plain functions Lib.parseUintB, Lib.hasPrefix, Lib.trimPrefix alone).
-/
import Derived.Lib.ParseIntB
import Derived.Lib.Strings
namespace Go.Proofs.Qxb6600206aDoor.Pl

/-- One digit more. -/
def dstep (o : Option Nat) (c : UInt8) : Option Nat :=
  match o with
  | none => none
  | some a => if 48 ≤ c.toNat ∧ c.toNat ≤ 57 ∧ a * 10 + (c.toNat - 48) ≤ 65535 then some (a * 10 + (c.toNat - 48)) else none
def numF (l : List UInt8) : Option Nat := l.foldl dstep (some 0)
/-- A row of digits, at least one, whose value is at most 65535. -/
def num16 (l : List UInt8) : Option Nat := if l = [] then none else numF l
/-- The prefix, then such a row. -/
def numbered (s p : List UInt8) : Option Nat := if Lib.hasPrefix s p then num16 (s.drop p.length) else none

theorem fold_none (l : List UInt8) : l.foldl dstep none = none := by
  induction l with
  | nil => rfl
  | cons c l ih => exact ih
theorem numF_snoc (l : List UInt8) (c : UInt8) : numF (l ++ [c]) = dstep (numF l) c := by simp [numF, List.foldl_append]

theorem parse_fold (l : List UInt8) : ∀ acc : Nat, acc ≤ 65535 →
    (∀ u, Lib.parseUintM 65535 acc l = .ok u → l.foldl dstep (some acc) = some u) ∧ ((∀ u, Lib.parseUintM 65535 acc l ≠ .ok u) → l.foldl dstep (some acc) = none) := by
  induction l with
  | nil =>
    intro acc _
    refine ⟨fun u h => ?_, fun h => absurd rfl (h acc)⟩
    simp only [Lib.parseUintM, Lib.NumEnd.ok.injEq] at h
    simp [h]
  | cons c l ih =>
    intro acc hacc
    unfold Lib.parseUintM
    simp only [List.foldl_cons]
    by_cases hd : 48 ≤ c.toNat ∧ c.toNat ≤ 57
    · rw [if_pos hd, if_neg (by omega)]
      by_cases hm : 65535 < acc * 10 + (c.toNat - 48)
      · rw [if_pos hm]
        have e : dstep (some acc) c = none := by simp only [dstep]; rw [if_neg (by omega)]
        rw [e, fold_none]
        exact ⟨fun u h => by simp at h, fun _ => rfl⟩
      · rw [if_neg hm]
        have e : dstep (some acc) c = some (acc * 10 + (c.toNat - 48)) := by simp only [dstep]; rw [if_pos (by omega)]
        rw [e]
        exact ih _ (by omega)
    · rw [if_neg hd]
      have e : dstep (some acc) c = none := by simp only [dstep]; rw [if_neg (by omega)]
      rw [e, fold_none]
      exact ⟨fun u h => by simp at h, fun _ => rfl⟩

theorem num16_ok {l : List UInt8} {u : Nat} (h : Lib.parseUintB 16 l = .ok u) : num16 l = some u := by
  unfold Lib.parseUintB at h
  unfold num16
  split at h
  · simp at h
  · rename_i hl
    rw [if_neg hl]
    exact (parse_fold l 0 (by omega)).1 u h
theorem num16_no {l : List UInt8} (h : ∀ u, Lib.parseUintB 16 l ≠ .ok u) : num16 l = none := by
  unfold Lib.parseUintB at h
  unfold num16
  split at h
  · rename_i hl
    rw [if_pos hl]
  · rename_i hl
    rw [if_neg hl]
    exact (parse_fold l 0 (by omega)).2 h

theorem step_le {o : Option Nat} {c : UInt8} {u : Nat} (h : dstep o c = some u) : u ≤ 65535 := by
  cases o with
  | none => simp [dstep] at h
  | some a =>
    simp only [dstep] at h
    split at h
    · simp at h; omega
    · simp at h
theorem fold_le (l : List UInt8) : ∀ o : Option Nat, (∀ a, o = some a → a ≤ 65535) → ∀ u, l.foldl dstep o = some u → u ≤ 65535 := by
  induction l with
  | nil => intro o ho u h; exact ho u h
  | cons c l ih => intro o _ u h; exact ih (dstep o c) (fun a ha => step_le ha) u h
theorem num16_le {l : List UInt8} {u : Nat} (h : num16 l = some u) : u ≤ 65535 := by
  unfold num16 at h
  split at h
  · simp at h
  · exact fold_le l (some 0) (fun a ha => by simp at ha; omega) u h
theorem numbered_le {s p : List UInt8} {u : Nat} (h : numbered s p = some u) : u ≤ 65535 := by
  unfold numbered at h
  split at h
  · exact num16_le h
  · simp at h
end Go.Proofs.Qxb6600206aDoor.Pl
