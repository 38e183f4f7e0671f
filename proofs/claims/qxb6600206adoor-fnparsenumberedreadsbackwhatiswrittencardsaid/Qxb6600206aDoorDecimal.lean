/-
  Seat b6600206aD: the walk of decimalOf (9).
-/
import Derived.Test.Qxb6600206aDoorText
namespace Go.Proofs.Qxb6600206aDoor.Dc
open Go.RowKit Go.Proofs.Qxb6600206aDoor.Pl Go.Proofs.Qxb6600206aDoor.Ps Go.Proofs.Qxb6600206aDoor.Tx
set_option linter.unusedVariables false

/-- The array tmp from place i on holds the digits d. -/
def tmpAt (d : List UInt8) (i : Nat) (j : Nat) : Value := if j < i then .int .u8 0 else .int .u8 (bv d (j - i))
/-- After some rounds: what is left of the number is v; the digits d have been written at the end of tmp. -/
def Wrote (B v0 i v : Nat) (d : List UInt8) (w : World) : Prop :=
  i ≤ 5 ∧ d.length = 5 - i ∧ v < 10 ^ i ∧ v ≤ 65535 ∧ d.foldl dstep (some v) = some v0 ∧ ∃ t, w.rowIs B t 5 (tmpAt d i)

theorem wrote_step {B v0 i v : Nat} {d : List UInt8} {w : World} (h : Wrote B v0 i v d w) (hv : 0 < v) :
    1 ≤ i ∧ Wrote B v0 (i - 1) (v / 10) (UInt8.ofNat (48 + v % 10) :: d) (w.setCell ⟨B, i - 1, none⟩ (.int .u8 (48 + (v : Int) % 10))) := by
  obtain ⟨h1, h2, h3, h4, h5, t, h6⟩ := h
  have hi : 1 ≤ i := by
    apply Nat.pos_of_ne_zero
    intro e
    subst e
    simp at h3
    omega
  obtain ⟨k, rfl⟩ : ∃ k, i = k + 1 := ⟨i - 1, by omega⟩
  refine ⟨hi, by omega, by simp; omega, ?_, by omega, digit_step h4 h5, t, ?_⟩
  · rw [Nat.pow_succ] at h3
    simp only [Nat.add_sub_cancel]
    omega
  · simp only [Nat.add_sub_cancel]
    have e : (UInt8.ofNat (48 + v % 10)).toNat = 48 + v % 10 := by rw [UInt8.toNat_ofNat']; omega
    refine (h6.set k _).congr fun j hj => ?_
    unfold tmpAt
    by_cases e1 : j = k
    · subst e1
      simp [bv]
      omega
    · rw [if_neg e1]
      by_cases e2 : j < k
      · rw [if_pos e2, if_pos (by omega)]
      · rw [if_neg e2, if_neg (by omega), show j - k = (j - (k + 1)) + 1 by omega]
        simp [bv, List.getD]

theorem wrote_start {v : Nat} (w : World) (hv : v ≤ 65535) : Wrote w.heap.size v 5 v [] (w.alloc (.cells #[.int .u8 0, .int .u8 0, .int .u8 0, .int .u8 0, .int .u8 0] 30)) := by
  refine ⟨Nat.le_refl _, rfl, by omega, hv, rfl, 30, (World.rowIs_alloc w #[.int .u8 0, .int .u8 0, .int .u8 0, .int .u8 0, .int .u8 0] 30 (tmpAt [] 5) fun i hi => ?_)⟩
  have hi' : i < 5 := by simpa using hi
  unfold tmpAt
  rw [if_pos hi']
  match i, hi' with
  | 0, _ => rfl
  | 1, _ => rfl
  | 2, _ => rfl
  | 3, _ => rfl
  | 4, _ => rfl
theorem one_zero (w : World) : BytesAt (w.alloc (.cells #[.int .u8 48] 5)) (some ⟨w.heap.size, 0, none⟩) 1 1 [48] :=
  ⟨rfl, Nat.le_refl _, by unfold maxLen; omega, fun e => by simp at e, fun _ => ⟨w.heap.size, 0, rfl, by simp, fun i hi => by
    obtain rfl : i = 0 := by omega
    simp [bv]⟩⟩

set_option maxHeartbeats 1000000 in
theorem decimalOf_any (v : Nat) (w : World) (hv : v ≤ 65535) :
    Calls Tryd.prog 9 #[.int .u16 (v : Int)] w fun e w' => (∃ a c d, e = .returned (.slice a d.length c) ∧ BytesAt w' a d.length c d ∧ d ≠ [] ∧ d.length ≤ 5 ∧ numF d = some v) ∧ Below w.heap.size w w' := by
  by_cases h0 : v = 0
  · have h0' : ((v : Int) == 0) = true := by simp [h0]
    have H0 : Hid (v = 0) := h0
    clear h0
    go_enter Tryd.func9, Tryd.ntmps9
    go_wp2
    go_ret
    exact ⟨⟨_, _, [48], rfl, one_zero w, by simp, by simp, by rw [H0.out]; rfl⟩, (Below.refl _ _).alloc (Nat.le_refl _) _⟩
  · have h0' : ((v : Int) == 0) = false := by simp; omega
    clear h0
    go_enter Tryd.func9, Tryd.ntmps9
    go_wp2
    go_loopw [0, 4] (fun a b wr => ∃ (i u : Nat) (d : List UInt8), a = .int .u16 u ∧ b = .int .i64 i ∧ u ≤ 65535 ∧ i ≤ 5 ∧ Hid (Wrote w.heap.size v i u d wr) ∧ Hid (Below w.heap.size w wr)) (fun a _ _ => (intOf a).toNat)
    case atStart => exact ⟨5, v, [], rfl, rfl, hv, by omega, wrote_start w hv, (Below.refl _ _).alloc (Nat.le_refl _) _⟩
    case round =>
      obtain ⟨i, u, d, rfl, rfl, hu, hi, HW, HB⟩ := hrel
      by_cases hpos : 0 < u
      · obtain ⟨hi1, hstep⟩ := wrote_step HW.out hpos
        obtain ⟨k, rfl⟩ : ∃ k, i = k + 1 := ⟨i - 1, by omega⟩
        rw [Nat.add_sub_cancel] at hstep
        have HS : Hid _ := hstep
        obtain ⟨t, hrow⟩ := HW.out.2.2.2.2.2
        have g1 := hrow.cell (i := k) (by omega)
        have g2 := hrow.frozen k
        clear hstep hrow
        go_wp2
        go_roundw
        case rel => exact ⟨k, u / 10, _, by go_num, rfl, by omega, by omega, HS.out, HB.out.setCell (Nat.le_refl _) _⟩
        case measure => simp [intOf]; omega
      · obtain rfl : u = 0 := by omega
        obtain ⟨wq, hwq⟩ : ∃ wq, wq = wr := ⟨_, rfl⟩
        subst hwq
        obtain ⟨q1, q2, _, _, q5, t, hrow⟩ := HW.out
        have HD : Hid (numF d = some v) := q5
        have HDl : Hid (d.length = 5 - i) := q2
        have hsz : w.heap.size < wq.heap.size := hrow.lt
        have HG : Hid (∀ j, i ≤ j → j < 5 → wq.cell? ⟨w.heap.size, j, none⟩ = some (.int .u8 (bv d (j - i)))) := fun j h1 h2 => by
          have := hrow.cell h2
          rw [this]
          unfold tmpAt
          rw [if_neg (by omega)]
        clear q1 q2 q5 hrow HW
        obtain ⟨i0, hinf, hz0, hz1, hz2⟩ := info_parts info5
        have hby : i0.bytes * (5 - i) ≤ 281474976710656 := by rw [hz2]; omega
        have hml : 5 - i ≤ maxLen := by unfold maxLen; omega
        have HI : Hid (Tryd.prog.info? 5 = some i0 ∧ i0.zero = some (.int .u8 0) ∧ i0.size = 1) := ⟨hinf, hz0, hz1⟩
        clear hinf hz0 hz1 hz2
        go_wp2_with (at_make; refine wpList_make_own _ rfl _ _ 27 rfl wq.heap.size 5 i0 (.int .u8 0) 1 Tryd.underlying27 HI.out.1 HI.out.2.1 HI.out.2.2 _ _ _ (5 - i) rfl rfl (by omega) hby hml (Nat.le_refl _) ?_; intro w3 h3 g3)
        have HT3 : Hid (TxtAt wq.heap.size w3 (.slice (some ⟨wq.heap.size, 0, none⟩) 0 (5 - i)) []) := h3
        have HW3 : Hid (Below wq.heap.size wq w3) := (Below.refl _ _).grown g3 (Nat.le_refl _) (fun k hk => by simp at hk)
        clear h3 g3 HI hby hml
        go_loopw [5, 6] (fun a b w4 => ∃ j : Nat, i ≤ j ∧ j ≤ 5 ∧ b = .int .i64 j ∧ Hid (TxtAt wq.heap.size w4 a (d.take (j - i))) ∧ Hid (Below wq.heap.size wq w4)) (fun _ b _ => 5 - (intOf b).toNat)
        case atStart => exact ⟨i, Nat.le_refl _, hi, rfl, by show TxtAt _ _ _ _; rw [Nat.sub_self]; exact HT3.out, HW3.out⟩
        case round =>
          obtain ⟨j, hj1, hj2, rfl, HT, HW4⟩ := hrel
          clear HT3 HW3
          by_cases hlt : j < 5
          · have g1 : wr.cell? ⟨w.heap.size, j, none⟩ = some (.int .u8 (bv d (j - i))) := (HW4.out.cell (p := ⟨w.heap.size, j, none⟩) hsz).trans (HG.out j hj1 hlt)
            have hl : j - i < d.length := by rw [HDl.out]; omega
            have HTk : Hid (d.take (j + 1 - i) = d.take (j - i) ++ [d.getD (j - i) 0]) := by
              show _ = _
              rw [show j + 1 - i = (j - i) + 1 by omega, List.take_succ_eq_append_getElem hl, List.getD_eq_getElem?_getD, List.getElem?_eq_getElem hl, Option.getD_some]
            have hlen : (d.take (j - i)).length ≤ 1073741824 := by rw [List.length_take]; omega
            have hsz2 := HW4.out.size
            clear hl
            go_wp2_with (at_builtin; refine wpList_put _ rfl (.tmp 30) (.tmp 34) rfl wq.heap.size _ (d.take (j - i)) (d.getD (j - i) 0) _ rfl rfl rfl HT.out hlen hsz2 ?_; intro v1 w1 h1 b1)
            have HU : Hid (TxtAt wq.heap.size w1 v1 (d.take (j + 1 - i))) := by show TxtAt _ _ _ _; rw [HTk.out]; exact h1
            have HB3 : Hid _ := HW4.out.trans b1
            go_roundw
            case rel => exact ⟨j + 1, by omega, by omega, by go_num, HU.out, HB3.out⟩
            case measure => simp [intOf]; omega
          · obtain rfl : j = 5 := by omega
            have h1 := HT.out
            rw [List.take_of_length_le (by rw [HDl.out]; exact Nat.le_refl _)] at h1
            obtain ⟨ra, rc, rfl, hr⟩ := h1.bytes
            have HR : Hid (BytesAt wr ra d.length rc d) := hr
            have HNe : Hid (d ≠ []) := fun e => by
              have := HD.out
              rw [e] at this
              have h2 : v = 0 := by simpa [numF] using this.symm
              subst h2
              simp at h0'
            clear h1 hr HT
            go_wp2
            go_ret
            exact ⟨⟨ra, rc, d, rfl, HR.out, HNe.out, by rw [HDl.out]; omega, HD.out⟩, HB.out.trans (HW4.out.mono HB.out.size)⟩
end Go.Proofs.Qxb6600206aDoor.Dc
