/-
  Seat b6600206a: the walks of foldEqualModel (18), zzBytes (16), FnNameEqualMatchesFoldModel (5).
-/
import Derived.Test.Qxb6600206aName
namespace Go.Proofs.Qxb6600206a.FoldWalk
open Go.RowKit Go.Proofs.Qxb6600206a.Pl Go.Proofs.Qxb6600206a.Nm
set_option linter.unusedVariables false

theorem fold_same {c d : UInt8} (h : ((c.toNat : Int) == (d.toNat : Int)) = true) : lwN c.toNat = lwN d.toNat := by
  have : c.toNat = d.toNat := Int.ofNat.inj (eq_of_beq h)
  rw [this]
theorem fold_hit {c d : UInt8} (h : bits BinOp.xor IntKind.u8 (c.toNat : Int) (d.toNat : Int) = 32) (h1 : 97 ≤ bits BinOp.or IntKind.u8 (c.toNat : Int) 32) (h2 : bits BinOp.or IntKind.u8 (c.toNat : Int) 32 ≤ 122) : lwN c.toNat = lwN d.toNat := by
  have hc := c.toNat_lt
  have hd := d.toNat_lt
  rw [u8_xor_nat _ _ hc hd] at h
  have e : bits BinOp.or IntKind.u8 (c.toNat : Int) 32 = ((c.toNat ||| 32 : Nat) : Int) := u8_or_nat _ 32 hc (by decide)
  rw [e] at h1 h2
  have := fold_iff c.toNat d.toNat hc hd
  have hf : foldN c.toNat d.toNat = true := by
    simp only [foldN, Bool.or_eq_true, Bool.and_eq_true, beq_iff_eq, decide_eq_true_eq]
    exact Or.inr ⟨by omega, by omega, by omega⟩
  rw [hf] at this
  exact eq_of_beq this.symm
theorem fold_miss {c d : UInt8} (h0 : ((c.toNat : Int) == (d.toNat : Int)) = false)
    (h : ¬ bits BinOp.xor IntKind.u8 (c.toNat : Int) (d.toNat : Int) = 32 ∨ bits BinOp.or IntKind.u8 (c.toNat : Int) 32 < 97 ∨ 122 < bits BinOp.or IntKind.u8 (c.toNat : Int) 32) : lwN c.toNat ≠ lwN d.toNat := by
  have hc := c.toNat_lt
  have hd := d.toNat_lt
  rw [u8_xor_nat _ _ hc hd] at h
  have e : bits BinOp.or IntKind.u8 (c.toNat : Int) 32 = ((c.toNat ||| 32 : Nat) : Int) := u8_or_nat _ 32 hc (by decide)
  rw [e] at h
  rw [beq_eq_false_iff_ne] at h0
  have := fold_iff c.toNat d.toNat hc hd
  intro k
  rw [beq_iff_eq.2 k] at this
  simp only [foldN, Bool.or_eq_true, Bool.and_eq_true, beq_iff_eq, decide_eq_true_eq] at this
  omega
theorem ne_false' {a b : ByteArray} {k : Nat} (ha : k < a.size) (hb : k < b.size) (h : lwN a[k].toNat ≠ lwN b[k].toNat) : nameEq a.data.toList b.data.toList = false :=
  nameEq_at k (by simpa using ha) (by simpa using hb) h
theorem eq_step' {a b : ByteArray} {k : Nat} (ha : k < a.size) (hb : k < b.size) (h : lwN a[k].toNat = lwN b[k].toNat)
    (hr : ∀ j (h1 : j < a.data.toList.length) (h2 : j < b.data.toList.length), j < k → lwN (a.data.toList[j]).toNat = lwN (b.data.toList[j]).toNat) :
    ∀ j (h1 : j < a.data.toList.length) (h2 : j < b.data.toList.length), j < k + 1 → lwN (a.data.toList[j]).toNat = lwN (b.data.toList[j]).toNat := by
  intro j h1 h2 hj
  rcases Nat.lt_succ_iff_lt_or_eq.1 hj with h3 | rfl
  · exact hr j h1 h2 h3
  · exact h

set_option maxHeartbeats 400000 in
theorem fold_any (a b : ByteArray) (w : World) (ha : a.size ≤ maxLen) (hb : b.size ≤ maxLen) :
    Calls Try.prog 18 #[.string a, .string b] w fun e w' => e = .returned (.bool (nameEq a.data.toList b.data.toList)) ∧ w' = w := by
  unfold maxLen at ha hb
  by_cases hl : a.size = b.size
  · have hl' : ((a.size : Int) != (b.size : Int)) = false := by simp [hl]
    have HL : Hid (a.size = b.size) := hl
    clear hl
    go_enter Try.func18, Try.ntmps18
    go_wp2
    go_loop [5, 6, 7, 8] (fun i _ _ _ => ∃ k : Nat, k ≤ a.size ∧ i = .int .i64 k ∧ Hid (∀ j (h1 : j < a.data.toList.length) (h2 : j < b.data.toList.length), j < k → lwN (a.data.toList[j]).toNat = lwN (b.data.toList[j]).toNat)) (fun i _ _ _ => a.size - (intOf i).toNat)
    case atStart => exact ⟨0, Nat.zero_le _, rfl, fun j _ _ h => absurd h (Nat.not_lt_zero _)⟩
    case round =>
      obtain ⟨k, hk, rfl, HR⟩ := hrel
      by_cases hlt : k < a.size
      · have hlt' : k < b.size := by have := HL.out; omega
        go_wp2
        · go_round
          case rel => exact ⟨k + 1, by omega, by go_num, eq_step' hlt hlt' (fold_same (by assumption)) HR.out⟩
          case measure => simp [intOf]; omega
        · go_round
          case rel => exact ⟨k + 1, by omega, by go_num, eq_step' hlt hlt' (fold_hit (by assumption) (by assumption) (by assumption)) HR.out⟩
          case measure => simp [intOf]; omega
        · go_ret
          exact ⟨ret_bool (ne_false' hlt hlt' (fold_miss (by assumption) (Or.inr (Or.inr (by assumption))))).symm, rfl⟩
        · go_ret
          exact ⟨ret_bool (ne_false' hlt hlt' (fold_miss (by assumption) (Or.inr (Or.inl (by assumption))))).symm, rfl⟩
        · go_ret
          exact ⟨ret_bool (ne_false' hlt hlt' (fold_miss (by assumption) (Or.inl (by assumption)))).symm, rfl⟩
      · go_wp2
        go_ret
        exact ⟨ret_bool (nameEq_all (by simpa using HL.out) (fun i h1 h2 => HR.out i h1 h2 (by simp at h1; omega))).symm, rfl⟩
  · have hl' : ((a.size : Int) != (b.size : Int)) = true := by simp; omega
    have HL : Hid (a.size ≠ b.size) := hl
    clear hl
    go_enter Try.func18, Try.ntmps18
    go_wp2
    go_ret
    exact ⟨ret_bool (nameEq_len (by simpa using HL.out)).symm, rfl⟩

set_option maxHeartbeats 400000 in
theorem bytes_any (a b : ByteArray) (w : World) (ha : a.size ≤ maxLen) (hb : b.size ≤ maxLen) :
    Calls Try.prog 16 #[.string a, .string b] w fun e w' => e = .returned (.bool (decide (a.size + b.size ≤ 1048576))) ∧ w' = w := by
  unfold maxLen at ha hb
  go_enter Try.func16, Try.ntmps16
  go_wp2
  all_goals (go_ret; exact ⟨ret_bool (by simp; omega), rfl⟩)

set_option maxHeartbeats 1000000 in
theorem walk (a0 : ByteArray) (a1 : ByteArray) (w0 : a0.size ≤ maxLen) (w1 : a1.size ≤ maxLen) (w : World) :
    Calls Try.prog 5 #[.string a0, .string a1] w fun e w' => e = .returned (.bool true) ∧ Grown w w' := by
  by_cases hs : a0.size + a1.size ≤ 1048576
  · have hd : decide (a0.size + a1.size ≤ 1048576) = true := by simpa using hs
    go_enter Try.func5, Try.ntmps5
    go_wp2_with (go_at_call 16; refine (bytes_any _ _ _ w0 w1).mono ?_; rintro e w' ⟨rfl, rfl⟩)
    refine (zz_any _ _ _ w0 w1).mono ?_
    rintro e wa ⟨rfl, q1⟩
    go_wp2_with fail
    refine (fold_any _ _ _ w0 w1).mono ?_
    rintro e wb ⟨rfl, rfl⟩
    go_wp2_with fail
    go_ret
    exact ⟨ret_bool (by simp), q1.1⟩
  · have hd : decide (a0.size + a1.size ≤ 1048576) = false := by simpa using hs
    go_enter Try.func5, Try.ntmps5
    go_wp2_with (go_at_call 16; refine (bytes_any _ _ _ w0 w1).mono ?_; rintro e w' ⟨rfl, rfl⟩)
    go_ret
    exact ⟨rfl, Grown.refl _⟩
end Go.Proofs.Qxb6600206a.FoldWalk
