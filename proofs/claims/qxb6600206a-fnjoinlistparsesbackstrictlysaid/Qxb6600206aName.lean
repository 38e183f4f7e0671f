/-
  Seat b6600206a: the walks of lower (25), (Name).Equal (24), ZZNameEqual (17).
-/
import Derived.Test.Qxb6600206aRows
import Derived.Test.Qxb6600206aPlain
import Derived.WalkKit
import Derived.Deep.QuietTactic
import Derived.BigQuiet
namespace Go.Proofs.Qxb6600206a.Nm
open Go.RowKit Go.Proofs.Qxb6600206a.Pl
set_option linter.unusedVariables false

/-- New blocks and draws alone: of what was there nothing has turned. -/
def Q (w w' : World) : Prop := Grown w w' ∧ Below w.heap.size w w'
theorem Q.refl (w : World) : Q w w := ⟨Grown.refl _, Below.refl _ _⟩
theorem Q.trans {a b c : World} (h : Q a b) (k : Q b c) : Q a c :=
  ⟨⟨World.keptBut_trans h.1.1 k.1.1, fun x => (k.1.2.1 x).trans (h.1.2.1 x), Nat.le_trans h.1.2.2 k.1.2.2⟩, h.2.trans (k.2.mono h.2.size)⟩
theorem Q.drewN {a b : World} (h : Q a b) (n : Nat) : Q a (b.drewN n) := ⟨h.1, ⟨h.2.os, h.2.tape, h.2.output, h.2.size, h.2.block⟩⟩
theorem Q.drew {a b : World} (h : Q a b) : Q a b.drew := ⟨h.1.drew, h.2.drew⟩
theorem Q.alloc {a b : World} (h : Q a b) (c : Array Value) (t : TypeId) : Q a (b.alloc (.cells c t)) := ⟨h.1.alloc c t, h.2.alloc h.2.size _⟩

def lwI (n : Int) : Int := if 65 ≤ n ∧ n ≤ 90 then n + 32 else n
theorem lwI_nat (n : Nat) : lwI n = (lwN n : Int) := by
  unfold lwI lwN
  split <;> split <;> omega

theorem ret_int {k : IntKind} {a b : Int} (h : a = b) : Ending.returned (.int k a) = .returned (.int k b) := by rw [h]
theorem ret_bool {a b : Bool} (h : a = b) : Ending.returned (.bool a) = .returned (.bool b) := by rw [h]

set_option maxHeartbeats 400000 in
theorem lower_any (n : Int) (w : World) (h0 : 0 ≤ n) (h1 : n ≤ 255) :
    Calls Try.prog 25 #[.int .u8 n] w fun e w' => e = .returned (.int .u8 (lwI n)) ∧ w' = w := by
  by_cases h : 65 ≤ n
  · by_cases k : n ≤ 90
    · go_enter Try.func25, Try.ntmps25
      go_wp2
      go_ret
      exact ⟨ret_int (by unfold lwI; rw [if_pos ⟨h, k⟩]; omega), rfl⟩
    · go_enter Try.func25, Try.ntmps25
      go_wp2
      go_ret
      exact ⟨ret_int (by unfold lwI; rw [if_neg (by omega)]), rfl⟩
  · go_enter Try.func25, Try.ntmps25
    go_wp2
    go_ret
    exact ⟨ret_int (by unfold lwI; rw [if_neg (by omega)]), rfl⟩

theorem byte_le (c : UInt8) : (c.toNat : Int) ≤ 255 := by have := c.toNat_lt; omega
theorem byte_ge (c : UInt8) : 0 ≤ (c.toNat : Int) := by omega

theorem ne_false {a b : ByteArray} {k : Nat} (ha : k < a.size) (hb : k < b.size) (h : (lwI (a[k].toNat : Nat) != lwI (b[k].toNat : Nat)) = true) : nameEq a.data.toList b.data.toList = false := by
  refine nameEq_at k (by simpa using ha) (by simpa using hb) ?_
  intro e
  rw [bne_iff_ne, lwI_nat, lwI_nat] at h
  exact h (congrArg _ e)
theorem eq_step {a b : ByteArray} {k : Nat} (ha : k < a.size) (hb : k < b.size) (h : (lwI (a[k].toNat : Nat) != lwI (b[k].toNat : Nat)) = false)
    (hr : ∀ j (h1 : j < a.data.toList.length) (h2 : j < b.data.toList.length), j < k → lwN (a.data.toList[j]).toNat = lwN (b.data.toList[j]).toNat) :
    ∀ j (h1 : j < a.data.toList.length) (h2 : j < b.data.toList.length), j < k + 1 → lwN (a.data.toList[j]).toNat = lwN (b.data.toList[j]).toNat := by
  intro j h1 h2 hj
  rcases Nat.lt_succ_iff_lt_or_eq.1 hj with h3 | rfl
  · exact hr j h1 h2 h3
  · rw [bne_eq_false_iff_eq, lwI_nat, lwI_nat] at h
    have := Int.ofNat.inj h
    exact this

set_option maxHeartbeats 400000 in
theorem equal_any (a b : ByteArray) (w : World) (ha : a.size ≤ maxLen) (hb : b.size ≤ maxLen) :
    Calls Try.prog 24 #[.agg #[.string a], .agg #[.string b]] w fun e w' => e = .returned (.bool (nameEq a.data.toList b.data.toList)) ∧ Q w w' := by
  unfold maxLen at ha hb
  by_cases hl : a.size = b.size
  · have hl' : ((a.size : Int) != (b.size : Int)) = false := by simp [hl]
    have HL : Hid (a.size = b.size) := hl
    clear hl
    go_enter Try.func24, Try.ntmps24
    go_wp2
    go_loopw [5] (fun i wr => ∃ k : Nat, k ≤ a.size ∧ i = .int .i64 k ∧ wr.cell? ⟨w.heap.size, 0, none⟩ = some (.string a) ∧ wr.cell? ⟨w.heap.size + 1, 0, none⟩ = some (.string b) ∧ Hid (Q w wr) ∧ Hid (∀ j (h1 : j < a.data.toList.length) (h2 : j < b.data.toList.length), j < k → lwN (a.data.toList[j]).toNat = lwN (b.data.toList[j]).toNat)) (fun i _ => a.size - (intOf i).toNat)
    case atStart => exact ⟨0, Nat.zero_le _, rfl, by simp, by simp, ((Q.refl w).alloc _ _).alloc _ _, fun j _ _ h => absurd h (Nat.not_lt_zero _)⟩
    case round =>
      obtain ⟨k, hk, rfl, c0, c1, HQ, HR⟩ := hrel
      by_cases hlt : k < a.size
      · have hlt' : k < b.size := by have := HL.out; omega
        go_wp2
        go_quiet ((go_at_call 25; exact Calls.quiet_of_same (lower_any _ _ (byte_ge _) (byte_le _))))
        go_wp2
        · have hne : (lwI ↑a[k].toNat != lwI ↑b[k].toNat) = true := by assumption
          go_ret
          exact ⟨ret_bool (ne_false hlt hlt' hne).symm, HQ.out.drewN _⟩
        · have heq : (lwI ↑a[k].toNat != lwI ↑b[k].toNat) = false := by assumption
          go_roundw
          case rel => exact ⟨k + 1, by omega, by go_num, c0, c1, HQ.out.drewN _, eq_step hlt hlt' heq HR.out⟩
          case measure => simp [intOf]; omega
      · go_wp2
        go_ret
        exact ⟨ret_bool (nameEq_all (by simpa using HL.out) (fun i h1 h2 => HR.out i h1 h2 (by simp at h1; omega))).symm, HQ.out⟩
  · have hl' : ((a.size : Int) != (b.size : Int)) = true := by simp; omega
    have HL : Hid (a.size ≠ b.size) := hl
    clear hl
    go_enter Try.func24, Try.ntmps24
    go_wp2
    go_ret
    exact ⟨ret_bool (nameEq_len (by simpa using HL.out)).symm, ((Q.refl w).alloc _ _).alloc _ _⟩

set_option maxHeartbeats 400000 in
theorem zz_any (a b : ByteArray) (w : World) (ha : a.size ≤ maxLen) (hb : b.size ≤ maxLen) :
    Calls Try.prog 17 #[.string a, .string b] w fun e w' => e = .returned (.bool (nameEq a.data.toList b.data.toList)) ∧ Q w w' := by
  go_enter Try.func17, Try.ntmps17
  go_wp2_with (go_at_call 24; refine (equal_any _ _ _ ha hb).mono ?_; rintro e w' ⟨rfl, hq⟩)
  go_ret
  exact ⟨rfl, hq⟩
end Go.Proofs.Qxb6600206a.Nm
