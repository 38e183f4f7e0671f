/-
  Seat b6600206aD: the walk of numberedModel (7).
-/
import Derived.Test.Qxb6600206aDoorParse
namespace Go.Proofs.Qxb6600206aDoor.Md
open Go.RowKit Go.Proofs.Qxb6600206aDoor.Pl Go.Proofs.Qxb6600206aDoor.Ps
set_option linter.unusedVariables false

theorem numF_take_step (D : List UInt8) (k : Nat) (hk : k < D.length) : numF (D.take (k + 1)) = dstep (numF (D.take k)) (D.getD k 0) := by
  have e : D.take (k + 1) = D.take k ++ [D.getD k 0] := by
    rw [List.take_succ_eq_append_getElem hk, List.getD_eq_getElem?_getD, List.getElem?_eq_getElem hk, Option.getD_some]
  rw [e, numF_snoc]
theorem numF_take_none {D : List UInt8} {k : Nat} (h : numF (D.take k) = none) : numF D = none := by
  have e : numF D = (D.drop k).foldl dstep (numF (D.take k)) := by
    unfold numF
    rw [← List.foldl_append, List.take_append_drop]
  rw [e, h, fold_none]
theorem step_bad {o : Option Nat} {c : UInt8} (h : (c.toNat : Int) < 48 ∨ 57 < (c.toNat : Int)) : dstep o c = none := by
  cases o with
  | none => rfl
  | some a => simp only [dstep]; rw [if_neg (by omega)]
theorem step_none (c : UInt8) : dstep none c = none := rfl
theorem step_over {a : Nat} {c : UInt8} (h : 65535 < (a : Int) * 10 + ((c.toNat : Int) - 48)) : dstep (some a) c = none := by
  simp only [dstep]; rw [if_neg (by omega)]
theorem step_fine {a : Nat} {c : UInt8} (h1 : 48 ≤ (c.toNat : Int)) (h2 : (c.toNat : Int) ≤ 57) (h : (a : Int) * 10 + ((c.toNat : Int) - 48) ≤ 65535) : dstep (some a) c = some (a * 10 + (c.toNat - 48)) := by
  simp only [dstep]; rw [if_pos (by omega)]

/-- What the reader holds after k digits. -/
def At (D : List UInt8) (k : Nat) (V : Int) (ov : Bool) : Prop :=
  (ov = true → numF (D.take k) = none) ∧ (ov = false → ∃ u : Nat, numF (D.take k) = some u ∧ V = u ∧ V ≤ 65535)
theorem at_start (D : List UInt8) : At D 0 0 false := ⟨fun h => by simp at h, fun _ => ⟨0, rfl, rfl, by omega⟩⟩
theorem at_kept {D : List UInt8} {k : Nat} {V : Int} (hk : k < D.length) (h : At D k V true) : At D (k + 1) V true :=
  ⟨fun _ => by rw [numF_take_step D k hk, h.1 rfl]; rfl, fun h => by simp at h⟩
theorem at_over {D : List UInt8} {k : Nat} {V : Int} {c : UInt8} (hk : k < D.length) (hc : D.getD k 0 = c) (h : At D k V false) (hv : 65535 < V * 10 + ((c.toNat : Int) - 48)) : At D (k + 1) (V * 10 + ((c.toNat : Int) - 48)) true := by
  obtain ⟨u, h1, rfl, _⟩ := h.2 rfl
  exact ⟨fun _ => by rw [numF_take_step D k hk, h1, hc, step_over hv], fun h => by simp at h⟩
theorem at_fine {D : List UInt8} {k : Nat} {V : Int} {c : UInt8} (hk : k < D.length) (hc : D.getD k 0 = c) (h1 : 48 ≤ (c.toNat : Int)) (h2 : (c.toNat : Int) ≤ 57) (h : At D k V false) (hv : V * 10 + ((c.toNat : Int) - 48) ≤ 65535) : At D (k + 1) (V * 10 + ((c.toNat : Int) - 48)) false := by
  obtain ⟨u, h3, rfl, _⟩ := h.2 rfl
  exact ⟨fun h => by simp at h, fun _ => ⟨u * 10 + (c.toNat - 48), by rw [numF_take_step D k hk, h3, hc, step_fine h1 h2 hv], by omega, hv⟩⟩
theorem at_bad {D : List UInt8} {k : Nat} {c : UInt8} (hk : k < D.length) (hc : D.getD k 0 = c) (h : (c.toNat : Int) < 48 ∨ 57 < (c.toNat : Int)) : num16 D = none := by
  unfold num16
  split
  · rfl
  · exact numF_take_none (k := k + 1) (by rw [numF_take_step D k hk, hc, step_bad h])
theorem at_end {D : List UInt8} {k : Nat} {V : Int} {ov : Bool} (hk : k = D.length) (hD : D ≠ []) (h : At D k V ov) : (ov = true → num16 D = none) ∧ (ov = false → ∃ u : Nat, num16 D = some u ∧ V = u) := by
  subst hk
  unfold At at h
  rw [List.take_length] at h
  unfold num16
  rw [if_neg hD]
  exact ⟨h.1, fun e => by obtain ⟨u, a, b, _⟩ := h.2 e; exact ⟨u, a, b⟩⟩

theorem prefix_yes {s p : List UInt8} (hl : p.length ≤ s.length) (h : ∀ j (h1 : j < s.length) (h2 : j < p.length), s[j].toNat = p[j].toNat) : Lib.hasPrefix s p = true := by
  unfold Lib.hasPrefix
  rw [List.isPrefixOf_iff_prefix, List.prefix_iff_eq_take]
  apply List.ext_getElem
  · rw [List.length_take]; omega
  · intro i h1 h2
    rw [List.getElem_take]
    exact (UInt8.toNat_inj.1 (h i (by omega) h1)).symm
theorem prefix_len {s p : List UInt8} (hl : s.length < p.length) : numbered s p = none := by
  unfold numbered Lib.hasPrefix
  rw [if_neg]
  intro h
  rw [List.isPrefixOf_iff_prefix] at h
  have := h.length_le
  omega
theorem prefix_no {s p : List UInt8} {k : Nat} (h1 : k < s.length) (h2 : k < p.length) (h : s[k].toNat ≠ p[k].toNat) : numbered s p = none := by
  unfold numbered Lib.hasPrefix
  rw [if_neg]
  intro hp
  rw [List.isPrefixOf_iff_prefix, List.prefix_iff_eq_take] at hp
  apply h
  have e : p[k]? = (s.take p.length)[k]? := congrArg (fun l => l[k]?) hp
  rw [List.getElem?_take, if_pos h2, List.getElem?_eq_getElem h1, List.getElem?_eq_getElem h2] at e
  rw [Option.some.inj e]
theorem numbered_of {s p : List UInt8} (h : Lib.hasPrefix s p = true) : numbered s p = num16 (s.drop p.length) := by
  unfold numbered; rw [if_pos h]

theorem belowN {B : Nat} {a b : World} (h : Below B a b) (n : Nat) : Below B a (b.drewN n) := ⟨h.os, h.tape, h.output, h.size, h.block⟩
theorem ne_nat {a b : Nat} (h : ((a : Int) != (b : Int)) = true) : a ≠ b := by
  rw [bne_iff_ne] at h
  intro e
  exact h (congrArg _ e)
theorem eq_more {s p : ByteArray} {k : Nat} (ha : k < s.size) (hb : k < p.size) (h : (((s[k].toNat : Nat) : Int) != ((p[k].toNat : Nat) : Int)) = false)
    (hr : ∀ j (h1 : j < s.data.toList.length) (h2 : j < p.data.toList.length), j < k → (s.data.toList[j]).toNat = (p.data.toList[j]).toNat) :
    ∀ j (h1 : j < s.data.toList.length) (h2 : j < p.data.toList.length), j < k + 1 → (s.data.toList[j]).toNat = (p.data.toList[j]).toNat := by
  intro j h1 h2 hj
  rcases Nat.lt_succ_iff_lt_or_eq.1 hj with h3 | rfl
  · exact hr j h1 h2 h3
  · rw [bne_eq_false_iff_eq] at h
    exact Int.ofNat.inj h

set_option maxHeartbeats 1000000 in
theorem model_any (s p : ByteArray) (w : World) (hs : s.size ≤ 1048576) (hp : p.size ≤ 1048576) :
    Calls Tryd.prog 7 #[.string s, .string p] w fun e w' => e = .returned (.tuple #[.int .u16 (valI (numbered s.data.toList p.data.toList)), .bool (okB (numbered s.data.toList p.data.toList))]) ∧ Below w.heap.size w w' := by
  by_cases hl : s.size < p.size
  · have HF : Hid (numbered s.data.toList p.data.toList = none) := prefix_len (by simpa using hl)
    go_enter Tryd.func7, Tryd.ntmps7
    go_wp2
    go_ret2
    exact ⟨tup (by rw [HF.out]; rfl) (by rw [HF.out]; rfl), Below.refl _ _⟩
  · go_enter Tryd.func7, Tryd.ntmps7
    go_wp2
    go_loopw [6] (fun i wr => ∃ k : Nat, k ≤ p.size ∧ i = .int .i64 k ∧ Hid (Below w.heap.size w wr) ∧ Hid (∀ j (h1 : j < s.data.toList.length) (h2 : j < p.data.toList.length), j < k → (s.data.toList[j]).toNat = (p.data.toList[j]).toNat)) (fun i _ => p.size - (intOf i).toNat)
    case atStart => exact ⟨0, Nat.zero_le _, rfl, Below.refl _ _, fun j _ _ h => absurd h (Nat.not_lt_zero _)⟩
    case round =>
      obtain ⟨k, hk, rfl, HB, HR⟩ := hrel
      by_cases hlt : k < p.size
      · have hks : k < s.size := by omega
        go_wp2
        go_quiet (fail)
        go_wp2
        · have hne : (((s[k].toNat : Nat) : Int) != ((p[k].toNat : Nat) : Int)) = true := by assumption
          have hF : numbered s.data.toList p.data.toList = none := prefix_no (k := k) (by simpa using hks) (by simpa using hlt) (ne_nat hne)
          have HF : Hid (numbered s.data.toList p.data.toList = none) := hF
          clear hF
          go_ret2
          exact ⟨tup (by rw [HF.out]; rfl) (by rw [HF.out]; rfl), belowN HB.out _⟩
        · have heq : (((s[k].toNat : Nat) : Int) != ((p[k].toNat : Nat) : Int)) = false := by assumption
          go_roundw
          case rel => exact ⟨k + 1, by omega, by go_num, belowN HB.out _, eq_more hks hlt heq HR.out⟩
          case measure => simp [intOf]; omega
      · obtain rfl : k = p.size := by omega
        have HPre : Hid (Lib.hasPrefix s.data.toList p.data.toList = true) := prefix_yes (by simp; omega) (fun j h1 h2 => HR.out j h1 h2 (by simpa using h2))
        clear HR
        by_cases he : s.size = p.size
        · have HF : Hid (numbered s.data.toList p.data.toList = none) := by
            show _ = _
            rw [numbered_of HPre.out, List.drop_eq_nil_of_le (by simp; omega)]
            rfl
          have he' : ((s.size : Int) == (p.size : Int)) = true := by simp [he]
          clear he
          go_wp2
          go_ret2
          exact ⟨tup (by rw [HF.out]; rfl) (by rw [HF.out]; rfl), HB.out⟩
        · have he' : ((s.size : Int) == (p.size : Int)) = false := by simp; omega
          have hgt : p.size < s.size := by omega
          have HF : Hid (numbered s.data.toList p.data.toList = num16 (s.data.toList.drop p.size)) := numbered_of HPre.out
          have HDl : Hid ((s.data.toList.drop p.size).length = s.size - p.size) := by show _ = _; rw [List.length_drop]; rfl
          have HDn : Hid (s.data.toList.drop p.size ≠ []) := fun e => by have := HDl.out; rw [e] at this; simp at this; omega
          have HG : Hid (∀ i (h : i < s.size), p.size ≤ i → (s.data.toList.drop p.size).getD (i - p.size) 0 = s[i]) := fun i h hi => by
            rw [List.getD_eq_getElem?_getD, List.getElem?_drop, show p.size + (i - p.size) = i by omega, List.getElem?_eq_getElem (by simpa using h), Option.getD_some]
            rfl
          obtain ⟨D, hD⟩ : ∃ D, D = s.data.toList.drop p.size := ⟨_, rfl⟩
          rw [← hD] at HF HDl HDn HG
          clear he hD HPre hl
          go_wp2
          go_loop [7, 8, 9] (fun v o i => ∃ (k : Nat) (V : Int) (ov : Bool), p.size ≤ k ∧ k ≤ s.size ∧ i = .int .i64 k ∧ v = .int .u32 V ∧ o = .bool ov ∧ 0 ≤ V ∧ V ≤ 1000000 ∧ Hid (At D (k - p.size) V ov)) (fun _ _ i => s.size - (intOf i).toNat)
          case atStart => exact ⟨p.size, 0, false, Nat.le_refl _, by omega, rfl, rfl, rfl, by omega, by omega, by show At _ _ _ _; rw [Nat.sub_self]; exact at_start D⟩
          case round =>
            obtain ⟨k, V, ov, hk1, hk2, rfl, rfl, rfl, hV0, hV1, HA⟩ := hrel
            by_cases hlt : k < s.size
            · have hkD : k - p.size < D.length := by rw [HDl.out]; omega
              have HC : Hid (D.getD (k - p.size) 0 = s[k]) := HG.out k hlt hk1
              have HkD : Hid (k - p.size < D.length) := hkD
              have HE : Hid (k - p.size + 1 = k + 1 - p.size) := by show _ = _; omega
              clear hkD
              cases ov with
              | true =>
                go_wp2
                · have hbd : (s[k].toNat : Int) < 48 ∨ 57 < (s[k].toNat : Int) := by omega
                  have HN : Hid (num16 D = none) := at_bad HkD.out HC.out hbd
                  go_ret2
                  exact ⟨tup (by rw [HF.out, HN.out]; rfl) (by rw [HF.out, HN.out]; rfl), HB.out⟩
                · go_round
                  case rel => exact ⟨k + 1, V, true, by omega, by omega, by go_num, rfl, rfl, hV0, hV1, by show At _ _ _ _; rw [← HE.out]; exact at_kept HkD.out HA.out⟩
                  case measure => simp [intOf]; omega
                · have hbd : (s[k].toNat : Int) < 48 ∨ 57 < (s[k].toNat : Int) := by omega
                  have HN : Hid (num16 D = none) := at_bad HkD.out HC.out hbd
                  go_ret2
                  exact ⟨tup (by rw [HF.out, HN.out]; rfl) (by rw [HF.out, HN.out]; rfl), HB.out⟩
              | false =>
                have hV2 : V ≤ 65535 := by obtain ⟨u, _, _, h⟩ := HA.out.2 rfl; exact h
                go_wp2
                · have hbd : (s[k].toNat : Int) < 48 ∨ 57 < (s[k].toNat : Int) := by omega
                  have HN : Hid (num16 D = none) := at_bad HkD.out HC.out hbd
                  go_ret2
                  exact ⟨tup (by rw [HF.out, HN.out]; rfl) (by rw [HF.out, HN.out]; rfl), HB.out⟩
                · have hov : 65535 < V * 10 + ((s[k].toNat : Int) - 48) := by assumption
                  go_round
                  case rel => exact ⟨k + 1, V * 10 + ((s[k].toNat : Int) - 48), true, by omega, by omega, by go_num, rfl, rfl, by omega, by omega, by show At _ _ _ _; rw [← HE.out]; exact at_over HkD.out HC.out HA.out hov⟩
                  case measure => simp [intOf]; omega
                · have hov : V * 10 + ((s[k].toNat : Int) - 48) ≤ 65535 := by assumption
                  have hd1 : 48 ≤ (s[k].toNat : Int) := by omega
                  have hd2 : (s[k].toNat : Int) ≤ 57 := by omega
                  go_round
                  case rel => exact ⟨k + 1, V * 10 + ((s[k].toNat : Int) - 48), false, by omega, by omega, by go_num, rfl, rfl, by omega, by omega, by show At _ _ _ _; rw [← HE.out]; exact at_fine HkD.out HC.out hd1 hd2 HA.out hov⟩
                  case measure => simp [intOf]; omega
                · have hbd : (s[k].toNat : Int) < 48 ∨ 57 < (s[k].toNat : Int) := by omega
                  have HN : Hid (num16 D = none) := at_bad HkD.out HC.out hbd
                  go_ret2
                  exact ⟨tup (by rw [HF.out, HN.out]; rfl) (by rw [HF.out, HN.out]; rfl), HB.out⟩
            · obtain rfl : k = s.size := by omega
              have hend := at_end (by rw [HDl.out]) HDn.out HA.out
              cases ov with
              | true =>
                have HN : Hid (num16 D = none) := hend.1 rfl
                clear hend
                go_wp2
                go_ret2
                exact ⟨tup (by rw [HF.out, HN.out]; rfl) (by rw [HF.out, HN.out]; rfl), HB.out⟩
              | false =>
                obtain ⟨u, hu1, rfl⟩ := hend.2 rfl
                have hu := num16_le hu1
                have HN : Hid (num16 D = some u) := hu1
                clear hend hu1
                go_wp2
                go_ret2
                exact ⟨tup (by rw [HF.out, HN.out]; rfl) (by rw [HF.out, HN.out]; rfl), HB.out⟩
end Go.Proofs.Qxb6600206aDoor.Md
