/-
  Seat b6600206a: the walks of flipCase (21), zzBytes (20), FnNameEqualIgnoresCaseFlips (7).
-/
import Derived.Test.Qxb6600206aBytes
import Derived.Laws.IdiomStrings
namespace Go.Proofs.Qxb6600206a.FlipWalk
open Go.RowKit Go.Proofs.Qxb6600206a.Pl Go.Proofs.Qxb6600206a.Nm Go.Proofs.Qxb6600206a.By
set_option linter.unusedVariables false

/-- What flipCase has laid after k rounds: bytes with the same lower case. -/
def FlipAt (B n k : Nat) (a : List UInt8) (w : World) : Prop :=
  ∃ l : List UInt8, l.length = n ∧ (∀ j, j < k → lwN (l.getD j 0).toNat = lwN (a.getD j 0).toNat) ∧ w.rowIs B 5 n (By.part l k)

theorem flip_zero (w : World) (n : Nat) (a : List UInt8) : FlipAt w.heap.size n 0 a (w.alloc (.cells (madeCells #[.int .u8 0] n) 5)) :=
  ⟨List.replicate n 0, by simp, fun j hj => absurd hj (Nat.not_lt_zero _), part_zero _ w n⟩
theorem flip_cell {B n k : Nat} {a : List UInt8} {w : World} (h : FlipAt B n k a w) {j : Nat} (hj : j < n) : ∃ v, w.cell? ⟨B, j, none⟩ = some v := by
  obtain ⟨l, _, _, h1⟩ := h
  exact ⟨_, h1.cell hj⟩
theorem flip_frozen {B n k : Nat} {a : List UInt8} {w : World} (h : FlipAt B n k a w) (j : Nat) : w.frozen? ⟨B, j, none⟩ = false := by
  obtain ⟨l, _, _, h1⟩ := h
  exact h1.frozen j
theorem flip_byte {c : UInt8} {z : Int} (hz : z = c.toNat ∨ (97 ≤ (c.toNat : Int) ∧ (c.toNat : Int) ≤ 122 ∧ z = c.toNat - 32) ∨ (65 ≤ (c.toNat : Int) ∧ (c.toNat : Int) ≤ 90 ∧ z = c.toNat + 32)) :
    ∃ u : UInt8, z = (u.toNat : Int) ∧ lwN u.toNat = lwN c.toNat := by
  have hc := c.toNat_lt
  refine ⟨UInt8.ofNat z.toNat, ?_, ?_⟩
  · rw [UInt8.toNat_ofNat']; omega
  · rw [UInt8.toNat_ofNat']
    have e : z.toNat % 256 = z.toNat := by omega
    show lwN (z.toNat % 256) = _
    rw [e]
    unfold lwN
    split <;> split <;> omega
theorem flip_step {B n k : Nat} {a : List UInt8} {c : UInt8} {z : Int} {w : World} (h : FlipAt B n k a w) (hk : k < n) (hc : a.getD k 0 = c)
    (hz : z = c.toNat ∨ (97 ≤ (c.toNat : Int) ∧ (c.toNat : Int) ≤ 122 ∧ z = c.toNat - 32) ∨ (65 ≤ (c.toNat : Int) ∧ (c.toNat : Int) ≤ 90 ∧ z = c.toNat + 32)) : FlipAt B n (k + 1) a (w.setCell ⟨B, k, none⟩ (.int .u8 z)) := by
  obtain ⟨l, h1, h2, h3⟩ := h
  obtain ⟨u, rfl, hu⟩ := flip_byte hz
  have hg : ∀ j, j ≠ k → (l.set k u).getD j 0 = l.getD j 0 := fun j hj => by simp [List.getD, Ne.symm hj]
  have hgk : (l.set k u).getD k 0 = u := by simp [List.getD, h1, hk]
  refine ⟨l.set k u, by simpa using h1, fun j hj => ?_, ?_⟩
  · by_cases e : j = k
    · subst e; rw [hgk, hc]; exact hu
    · rw [hg j e]; exact h2 j (by omega)
  · refine (h3.set k _).congr fun i hi => ?_
    unfold By.part bv
    by_cases e : i = k
    · subst e; simp only [if_true, hgk, if_pos (Nat.lt_succ_self _)]
    · rw [if_neg e, hg i e]
      by_cases e2 : i < k
      · rw [if_pos e2, if_pos (by omega)]
      · rw [if_neg e2, if_neg (by omega)]
theorem flip_done {B n : Nat} {a : List UInt8} {w : World} (h : FlipAt B n n a w) (hn : a.length = n) : ∃ l : List UInt8, l.length = n ∧ nameEq l a = true ∧ (∀ j (hj : j < l.length), w.cell? ((Addr.mk B 0 none).add j) = some (.int .u8 (l[j].toNat : Int))) := by
  obtain ⟨l, h1, h2, h3⟩ := h
  refine ⟨l, h1, nameEq_all (by omega) (fun i ha hb => ?_), fun j hj => ?_⟩
  · have := h2 i (by omega)
    simpa [List.getD, ha, hb] using this
  · rw [Go.WideShapes.add_plain, Nat.zero_add, h3.cell (by omega)]
    have hjn : j < n := by omega
    simp [By.part, bv, List.getD, hj, hjn]

set_option maxHeartbeats 1000000 in
theorem flip_any (a : ByteArray) (am : Option Addr) (n c : Nat) (m : List UInt8) (w : World) (ha : a.size ≤ 1048576) (h : BytesAt w am n c m) (hn : n ≤ 1048576) :
    Calls Try.prog 21 #[.string a, .slice am n c] w fun e w' => (∃ s : ByteArray, e = .returned (.string s) ∧ s.size = a.size ∧ nameEq s.data.toList a.data.toList = true) ∧ Below w.heap.size w w' := by
  have HM : Hid (BytesAt w am n c m) := h
  clear h
  have hm := run_make_row' (P := Try.prog) 26 5 (.int .u8 0) 1 Try.underlying26 info5 rfl .i64 .i64 a.size (by omega) (by omega)
  go_enter Try.func21, Try.ntmps21
  go_wp2
  clear hm
  go_loopw [6, 7] (fun i _ wr => ∃ k : Nat, k ≤ a.size ∧ i = .int .i64 k ∧ Hid (FlipAt w.heap.size a.size k a.data.toList wr) ∧ Hid (Below w.heap.size w wr)) (fun i _ _ => a.size - (intOf i).toNat)
  case atStart => exact ⟨0, Nat.zero_le _, rfl, flip_zero w a.size _, (Below.refl _ _).alloc (Nat.le_refl _) _⟩
  case round =>
    obtain ⟨k, hk, rfl, HF, HB⟩ := hrel
    by_cases hlt : k < a.size
    · obtain ⟨v0, g1⟩ := flip_cell HF.out hlt
      have g2 := flip_frozen HF.out k
      have hc : a.data.toList.getD k 0 = a[k] := by simp [List.getD, hlt]; rfl
      have HC : Hid (a.data.toList.getD k 0 = a[k]) := hc
      clear hc
      by_cases hmk : k < n
      · have hxx := HM.out.below HB.out
        obtain ⟨_, _, _, _, h5⟩ := hxx
        obtain ⟨b, o, rfl, hbl, hcell⟩ := h5 (by omega)
        have g3 := hcell k hmk
        clear h5 hcell
        go_wp2
        all_goals
          go_roundw
          case rel => exact ⟨k + 1, by omega, by go_num, flip_step HF.out hlt HC.out (by omega), HB.out.setCell (Nat.le_refl _) _⟩
          case measure => simp [intOf]; omega
      · go_wp2
        all_goals
          go_roundw
          case rel => exact ⟨k + 1, by omega, by go_num, flip_step HF.out hlt HC.out (by omega), HB.out.setCell (Nat.le_refl _) _⟩
          case measure => simp [intOf]; omega
    · obtain rfl : k = a.size := by omega
      obtain ⟨l, h1, h2, h3⟩ := flip_done HF.out (by simp)
      have hcv := run_convert_bytes_back (P := Try.prog) wr 26 9 5 ⟨w.heap.size, 0, none⟩ a.size l Try.underlying26 Try.underlying5 Try.underlying9 h3
      rw [h1] at hcv
      have H2 : Hid (nameEq l a.data.toList = true) := h2
      have H1 : Hid (l.length = a.size) := h1
      clear h1 h2 h3
      go_wp2
      go_ret
      exact ⟨⟨_, rfl, H1.out, H2.out⟩, HB.out⟩

set_option maxHeartbeats 400000 in
theorem bytes_any (a b : ByteArray) (am : Option Addr) (n c : Nat) (w : World) (ha : a.size ≤ maxLen) (hb : b.size ≤ maxLen) (hc : n ≤ maxLen) :
    Calls Try.prog 20 #[.string a, .string b, .slice am n c] w fun e w' => e = .returned (.bool (decide (a.size + b.size + n ≤ 1048576))) ∧ w' = w := by
  unfold maxLen at ha hb hc
  go_enter Try.func20, Try.ntmps20
  go_wp2
  all_goals (go_ret; exact ⟨ret_bool (by simp; omega), rfl⟩)

set_option maxHeartbeats 1000000 in
theorem walk (a b : ByteArray) (am : Option Addr) (n c : Nat) (m : List UInt8) (w : World) (w0 : a.size ≤ maxLen) (w1 : b.size ≤ maxLen) (h : BytesAt w am n c m) :
    Calls Try.prog 7 #[.string a, .string b, .slice am n c] w fun e w' => e = .returned (.bool true) ∧ Below w.heap.size w w' := by
  have hn : n ≤ maxLen := Nat.le_trans h.2.1 h.2.2.1
  have HM : Hid (BytesAt w am n c m) := h
  clear h
  by_cases hs : a.size + b.size + n ≤ 1048576
  · have hd : decide (a.size + b.size + n ≤ 1048576) = true := by simpa using hs
    go_enter Try.func7, Try.ntmps7
    go_wp2_with (go_at_call 20; refine (bytes_any _ _ _ _ _ _ w0 w1 hn).mono ?_; rintro e w' ⟨rfl, rfl⟩)
    refine (copyBytes_any _ _ _ _ _ HM.out (by omega)).mono ?_
    rintro e wa ⟨a1, c1, rfl, y1, _, b1⟩
    have HY : Hid (BytesAt wa a1 n c1 m) := y1
    clear y1
    go_wp2_with fail
    refine (flip_any _ _ _ _ _ _ (by omega) HY.out (by omega)).mono ?_
    rintro e wb ⟨⟨s, rfl, hsz, hne⟩, b2⟩
    have ws : s.size ≤ maxLen := by rw [hsz]; exact w0
    have hnb := nameEq_congr hne b.data.toList
    have hn2 := (nameEq_symm a.data.toList s.data.toList).trans hne
    have HB2 : Hid (Below w'.heap.size w' wb) := below_trans b1 b2
    obtain ⟨r1, hr1⟩ : ∃ r, r = nameEq a.data.toList b.data.toList := ⟨_, rfl⟩
    obtain ⟨r2, hr2⟩ : ∃ r, r = nameEq b.data.toList a.data.toList := ⟨_, rfl⟩
    rw [← hr1, ← hr2] at hnb
    obtain ⟨q1, q2⟩ := hnb
    have q3 := hr1.symm
    have q4 := hr2.symm
    clear b1 b2 hsz hr1 hr2
    go_wp2_with fail
    refine (zz_any _ _ _ ws w0).mono ?_
    rintro e wc ⟨rfl, k1⟩
    rw [hne]
    go_wp2_with fail
    refine (zz_any _ _ _ w0 ws).mono ?_
    rintro e wd ⟨rfl, k2⟩
    rw [hn2]
    go_wp2_with fail
    refine (zz_any _ _ _ ws w1).mono ?_
    rintro e we ⟨rfl, k3⟩
    rw [q1]
    go_wp2_with fail
    refine (zz_any _ _ _ w0 w1).mono ?_
    rintro e wf ⟨rfl, k4⟩
    rw [q3]
    go_wp2_with fail
    refine (zz_any _ _ _ w1 ws).mono ?_
    rintro e wg ⟨rfl, k5⟩
    rw [q2]
    go_wp2_with fail
    refine (zz_any _ _ _ w1 w0).mono ?_
    rintro e wh ⟨rfl, k6⟩
    rw [q4]
    go_wp2_with fail
    go_ret
    exact ⟨ret_bool (by simp), below_trans (below_trans (below_trans (below_trans (below_trans (below_trans HB2.out k1.2) k2.2) k3.2) k4.2) k5.2) k6.2⟩
  · have hd : decide (a.size + b.size + n ≤ 1048576) = false := by simpa using hs
    go_enter Try.func7, Try.ntmps7
    go_wp2_with (go_at_call 20; refine (bytes_any _ _ _ _ _ _ w0 w1 hn).mono ?_; rintro e w' ⟨rfl, rfl⟩)
    go_ret
    exact ⟨rfl, Below.refl _ _⟩
end Go.Proofs.Qxb6600206a.FlipWalk
