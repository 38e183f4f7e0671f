/-
  Seat b6600206a: the walks of sameBytes (23), sameList (13), FnJoinListParsesBackStrictly (3).
-/
import Derived.Test.Qxb6600206aSplit
namespace Go.Proofs.Qxb6600206a.BackWalk
open Go.RowKit Go.Proofs.Qxb6600206a.Pl Go.Proofs.Qxb6600206a.Nm Go.Proofs.Qxb6600206a.By Go.Proofs.Qxb6600206a.Jp Go.Proofs.Qxb6600206a.It Go.Proofs.Qxb6600206a.Jo Go.Proofs.Qxb6600206a.Bk Go.Proofs.Qxb6600206a.Sp
set_option linter.unusedVariables false

theorem bytes_drewN {w : World} {a : Option Addr} {n c : Nat} {l : List UInt8} (h : BytesAt w a n c l) (m : Nat) : BytesAt (w.drewN m) a n c l := h

set_option maxHeartbeats 400000 in
theorem sameBytes_any (a : Option Addr) (n c : Nat) (a2 : Option Addr) (n2 c2 : Nat) (l : List UInt8) (w : World) (h : BytesAt w a n c l) (h2 : BytesAt w a2 n2 c2 l) :
    Calls Try.prog 23 #[.slice a n c, .slice a2 n2 c2] w fun e w' => e = .returned (.bool true) ∧ ∃ m, w' = w.drewN m := by
  obtain rfl : n2 = n := h2.1.symm.trans h.1
  have hn : n2 ≤ 9223372036854775807 := by have h3 := h.2.1; have h4 := h.2.2.1; unfold maxLen at h4; omega
  have HA : Hid (BytesAt w a n2 c l) := h
  have HB : Hid (BytesAt w a2 n2 c2 l) := h2
  clear h h2
  have hq : ((n2 : Int) != (n2 : Int)) = false := by simp
  go_enter Try.func23, Try.ntmps23
  go_wp2
  go_loopw [5] (fun i wr => ∃ k m : Nat, k ≤ n2 ∧ i = .int .i64 k ∧ wr = w.drewN m) (fun i _ => n2 - (intOf i).toNat)
  case atStart => exact ⟨0, 0, Nat.zero_le _, rfl, rfl⟩
  case round =>
    obtain ⟨k, m, hk, rfl, rfl⟩ := hrel
    by_cases hlt : k < n2
    · obtain ⟨b, o, rfl, g1⟩ := row_at HA.out (Below.refl _ _) hlt
      obtain ⟨b2, o2, rfl, g2⟩ := row_at HB.out (Below.refl _ _) hlt
      have hlt' : (k : Int) < (n2 : Int) := by omega
      go_wp2
      go_quiet (fail)
      go_wp2
      go_roundw
      case rel => exact ⟨k + 1, m + nq, by omega, by go_num, rfl⟩
      case measure => simp [intOf]; omega
    · go_wp2
      go_ret
      exact ⟨rfl, m, rfl⟩

set_option maxHeartbeats 1000000 in
theorem sameList_any (a : Option Addr) (n c : Nat) (a2 : Option Addr) (n2 c2 : Nat) (L : List (List UInt8)) (w : World) (h : RowsAt w a n c L) (h2 : RowsAt w a2 n2 c2 L) :
    Calls Try.prog 13 #[.slice a n c, .slice a2 n2 c2] w fun e w' => e = .returned (.bool true) ∧ Below w.heap.size w w' := by
  obtain rfl : n2 = n := h2.1.symm.trans h.1
  have hn : n2 ≤ 9223372036854775807 := by have h3 := h.2.1; have h4 := h.2.2.1; unfold maxLen at h4; omega
  have HA : Hid (RowsAt w a n2 c L) := h
  have HB : Hid (RowsAt w a2 n2 c2 L) := h2
  clear h h2
  have hq : ((n2 : Int) != (n2 : Int)) = false := by simp
  go_enter Try.func13, Try.ntmps13
  go_wp2
  go_loopw [5] (fun i wr => ∃ k : Nat, k ≤ n2 ∧ i = .int .i64 k ∧ Hid (Below w.heap.size w wr)) (fun i _ => n2 - (intOf i).toNat)
  case atStart => exact ⟨0, Nat.zero_le _, rfl, Below.refl _ _⟩
  case round =>
    obtain ⟨k, hk, rfl, HW⟩ := hrel
    by_cases hlt : k < n2
    · obtain ⟨b, o, a', n', c', rfl, g1, y1⟩ := head_at HA.out HW.out hlt
      obtain ⟨b2, o2, a2', n2', c2', rfl, g2, y2⟩ := head_at HB.out HW.out hlt
      have HY1 : Hid (BytesAt wr a' n' c' (L.getD k [])) := y1.below HW.out
      have HY2 : Hid (BytesAt wr a2' n2' c2' (L.getD k [])) := y2.below HW.out
      have hlt' : (k : Int) < (n2 : Int) := by omega
      clear y1 y2
      go_wp2
      go_quiet ((go_at_call 23; exact Calls.quiet_of (sameBytes_any _ _ _ _ _ _ _ _ (bytes_drewN HY1.out _) (bytes_drewN HY2.out _))))
      go_wp2
      go_roundw
      case rel => exact ⟨k + 1, by omega, by go_num, (⟨HW.out.os, HW.out.tape, HW.out.output, HW.out.size, HW.out.block⟩ : Below _ _ (wr.drewN nq))⟩
      case measure => simp [intOf]; omega
    · go_wp2
      go_ret
      exact ⟨rfl, HW.out⟩

set_option maxHeartbeats 1000000 in
theorem walk (a : Option Addr) (n c : Nat) (L : List (List UInt8)) (w : World) (h : RowsAt w a n c L) :
    Calls Try.prog 3 #[.slice a n c] w fun e w' => e = .returned (.bool true) ∧ Below w.heap.size w w' := by
  have HR : Hid (RowsAt w a n c L) := h
  have hn : n ≤ 9223372036854775807 := by have h2 := h.2.1; have h3 := h.2.2.1; unfold maxLen at h3; omega
  have HL : Hid (L.length = n) := h.1
  clear h
  go_enter Try.func3, Try.ntmps3
  go_wp2_with fail
  refine (bytes8_any _ _ _ _ _ HR.out).mono ?_
  rintro e w0 ⟨⟨t, rfl⟩, rfl⟩
  cases t with
  | false =>
    go_wp2
    go_ret
    exact ⟨rfl, Below.refl _ _⟩
  | true =>
    go_wp2_with fail
    refine (itemsBytes_any _ _ _ _ _ HR.out).mono ?_
    rintro e w0 ⟨⟨t1, rfl, h10, h11, h12⟩, rfl⟩
    by_cases hc : t1 ≤ 1048576
    · have HT : Hid (tot L ≤ 1048576) := by have := h12 hc; show _ ≤ _; omega
      clear h12
      go_wp2_with fail
      refine (copyItems_any _ _ _ _ _ HR.out HT.out).mono ?_
      rintro e w1 ⟨a1, c1, rfl, r1, b1⟩
      have HR1 : Hid (RowsAt w1 a1 n c1 L) := r1
      have HW1 : Hid (Below w0.heap.size w0 w1) := b1
      clear r1 b1
      go_wp2_with fail
      refine (zzJoin_any _ _ _ _ _ HR1.out HT.out).mono ?_
      rintro e w2 ⟨a2, c2, rfl, y2, b2⟩
      have HY2 : Hid (BytesAt w2 a2 (joinL L).length c2 (joinL L)) := y2
      have HR2 : Hid (RowsAt w2 a1 n c1 L) := HR1.out.below b2
      have HW2 : Hid (Below w0.heap.size w0 w2) := below_trans HW1.out b2
      clear y2 b2 HR1 HW1
      by_cases hz : n = 0
      · subst hz
        have hL : L = [] := List.eq_nil_of_length_eq_zero HL.out
        subst hL
        go_wp2_with fail
        go_ret
        exact ⟨rfl, HW2.out⟩
      · have e1 : ((n : Int) == 0) = false := by simp; omega
        have hne : L ≠ [] := fun e => hz (by rw [← HL.out, e]; rfl)
        have HNE : Hid (L ≠ []) := hne
        clear hz hne
        go_wp2_with fail
        refine (split_any _ _ _ _ _ HY2.out HNE.out HT.out).mono ?_
        rintro e w3 ⟨a3, c3, rfl, r3, b3⟩
        have HR3 : Hid (RowsAt w3 a3 L.length c3 L) := r3
        have HR4 : Hid (RowsAt w3 a1 n c1 L) := HR2.out.below b3
        have HW3 : Hid (Below w0.heap.size w0 w3) := below_trans HW2.out b3
        clear r3 b3 HR2 HW2 HY2
        go_wp2_with fail
        refine (sameList_any _ _ _ _ _ _ _ _ HR3.out HR4.out).mono ?_
        rintro e w4 ⟨rfl, b4⟩
        go_wp2_with fail
        go_ret
        exact ⟨rfl, below_trans HW3.out b4⟩
    · clear h12
      go_wp2_with fail
      go_ret
      exact ⟨rfl, Below.refl _ _⟩
end Go.Proofs.Qxb6600206a.BackWalk
