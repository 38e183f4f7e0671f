/-
  Seat b6600206aD: the walk of FnParseNumberedReadsBackWhatIsWritten (4) and its bound zzBytes (8).
-/
import Derived.Test.Qxb6600206aDoorDecimal
import Derived.Laws.IdiomStrings
import Derived.OpenShut
namespace Go.Proofs.Qxb6600206aDoor.BackWalk
open Go.RowKit Go.Proofs.Qxb6600206aDoor.Pl Go.Proofs.Qxb6600206aDoor.Ps Go.Proofs.Qxb6600206aDoor.Tx Go.Proofs.Qxb6600206aDoor.Dc
set_option linter.unusedVariables false

theorem ret_bool {a b : Bool} (h : a = b) : Ending.returned (.bool a) = .returned (.bool b) := by rw [h]

set_option maxHeartbeats 400000 in
theorem bytes_any (a : ByteArray) (v z : Int) (w : World) (ha : a.size ≤ maxLen) :
    Calls Tryd.prog 8 #[.string a, .int .u16 v, .int .i64 z] w fun e w' => e = .returned (.bool (decide (a.size ≤ 1048576))) ∧ w' = w := by
  unfold maxLen at ha
  go_enter Tryd.func8, Tryd.ntmps8
  go_wp2
  all_goals (go_ret; exact ⟨ret_bool (by simp; omega), rfl⟩)

/-- What 'string(buf)' reads. -/
theorem txt_cells {B : Nat} {w : World} {v : Value} {l : List UInt8} (h : TxtAt B w v l) (hl : l ≠ []) : ∃ g c, v = .slice (some ⟨g, 0, none⟩) l.length c ∧ ∀ j (hj : j < l.length), w.cell? ((Addr.mk g 0 none).add j) = some (.int .u8 (l[j].toNat : Int)) := by
  obtain ⟨h1, h2⟩ := h
  rcases h2 with ⟨rfl, h0⟩ | ⟨g, cap, cur, rfl, hg, hh, h3, h4, h5, h6⟩
  · exact absurd (List.eq_nil_of_length_eq_zero h0) hl
  · refine ⟨g, cap, rfl, fun j hj => ?_⟩
    rw [Go.WideShapes.add_plain, Nat.zero_add]
    have e : (cellsOf l)[j]? = some (.int .u8 (l[j].toNat : Int)) := by
      simp [cellsOf, hj]
    rw [← h6, List.getElem?_take, if_pos (by omega)] at e
    simp only [World.cell?, hh]
    simpa using e

theorem val_some (u : Nat) : valI (some u) = (u : Int) := rfl
theorem ok_some (u : Nat) : okB (some u) = true := rfl
theorem val_none : valI none = 0 := rfl
theorem ok_none : okB none = false := rfl

theorem val_seven (v : Nat) : valI (some (v * 10 + 7)) = (v : Int) * 10 + 7 := by rw [val_some]; omega
theorem app_list (X : List UInt8) (c : UInt8) : (ByteArray.mk X.toArray ++ ByteArray.mk #[c]).data.toList = X ++ [c] := by
  rw [ByteArray.data_append]; simp
theorem app_size (X : List UInt8) (c : UInt8) : (ByteArray.mk X.toArray ++ ByteArray.mk #[c]).size = X.length + 1 := by
  have h : (ByteArray.mk X.toArray ++ ByteArray.mk #[c]).size = (ByteArray.mk X.toArray ++ ByteArray.mk #[c]).data.toList.length := rfl
  rw [h, app_list]; simp

set_option maxHeartbeats 2000000 in
theorem walk_main (p : ByteArray) (v z : Nat) (w : World) (hp : p.size ≤ 1048576) (hv : v ≤ 65535) (hz : z ≤ 4096) (hE : Errs w) :
    Calls Tryd.prog 4 #[.string p, .int .u16 (v : Int), .int .i64 (z : Int)] w fun e w' => e = .returned (.bool true) ∧ Below w.heap.size w w' := by
  have HE : Hid (Errs w) := hE
  clear hE
  have hd : decide (p.size ≤ 1048576) = true := by simpa using hp
  have d1 : decide ((z : Int) < 0) = false := by simp
  have d2 : decide (4096 < (z : Int)) = false := by simp; omega
  go_enter Tryd.func4, Tryd.ntmps4
  go_wp2_with (go_at_call 8; refine (bytes_any _ _ _ _ (by unfold maxLen; omega)).mono ?_; rintro e w' ⟨rfl, rfl⟩)
  refine (decimalOf_any v _ hv).mono ?_
  rintro e w1 ⟨⟨da, dc, d, rfl, y1, hne, hdl, hdn⟩, b1⟩
  have HY : Hid (BytesAt w1 da d.length dc d) := y1
  have HD : Hid (d ≠ [] ∧ numF d = some v) := ⟨hne, hdn⟩
  have HB1 : Hid (Below w'.heap.size w' w1) := b1
  have HE1 : Hid (Errs w1) := HE.out.below b1
  clear y1 hne hdn b1
  obtain ⟨i0, hinf, hz0, hz1, hz2⟩ := info_parts info5
  have hby : i0.bytes * (p.size + z + d.length + 1) ≤ 281474976710656 := by rw [hz2]; omega
  have hml : p.size + z + d.length + 1 ≤ maxLen := by unfold maxLen; omega
  have HI : Hid (Tryd.prog.info? 5 = some i0 ∧ i0.zero = some (.int .u8 0) ∧ i0.size = 1) := ⟨hinf, hz0, hz1⟩
  clear hinf hz0 hz1 hz2
  go_wp2_with (at_make; refine wpList_make_own _ rfl _ _ 27 rfl w1.heap.size 5 i0 (.int .u8 0) 1 Tryd.underlying27 HI.out.1 HI.out.2.1 HI.out.2.2 _ _ _ (p.size + z + d.length + 1) rfl rfl (by omega) hby hml (Nat.le_refl _) ?_; intro w3 h3 g3)
  have HT3 : Hid (TxtAt w1.heap.size w3 (.slice (some ⟨w1.heap.size, 0, none⟩) 0 (p.size + z + d.length + 1)) []) := h3
  have HW3 : Hid (Below w1.heap.size w1 w3) := (Below.refl _ _).grown g3 (Nat.le_refl _) (fun k hk => by simp at hk)
  clear h3 g3 HI hby hml
  obtain ⟨P, hP⟩ : ∃ P, P = p.data.toList := ⟨_, rfl⟩
  have HP : Hid (P = p.data.toList) := hP
  have HPl : Hid (P.length = p.size) := by show _ = _; rw [hP]; rfl
  have HPg : Hid (∀ k (h : k < p.size), p[k] = P.getD k 0) := fun k h => by
    rw [hP, List.getD_eq_getElem?_getD, List.getElem?_eq_getElem (by simpa using h), Option.getD_some]; rfl
  clear hP
  go_loopw [8, 9] (fun a b wr => ∃ k : Nat, k ≤ p.size ∧ b = .int .i64 k ∧ Hid (TxtAt w1.heap.size wr a (P.take k)) ∧ Hid (Below w1.heap.size w1 wr)) (fun _ b _ => p.size - (intOf b).toNat)
  case atStart => exact ⟨0, Nat.zero_le _, rfl, HT3.out, HW3.out⟩
  case round =>
    obtain ⟨k, hk, rfl, HT, HW⟩ := hrel
    clear HT3 HW3
    by_cases hlt : k < p.size
    · have HC : Hid ((p[k].toNat : Int) = ((P.getD k 0).toNat : Int)) := by show _ = _; rw [HPg.out k hlt]
      have hkl : k < P.length := by rw [HPl.out]; exact hlt
      have HTk : Hid (P.take (k + 1) = P.take k ++ [P.getD k 0]) := by
        show _ = _
        rw [List.take_succ_eq_append_getElem hkl, List.getD_eq_getElem?_getD, List.getElem?_eq_getElem hkl, Option.getD_some]
      have hlen : (P.take k).length ≤ 1073741824 := by rw [List.length_take]; omega
      have hsz := HW.out.size
      clear hkl
      go_wp2_with (at_builtin; refine wpList_put _ rfl (.tmp 51) (.tmp 55) rfl w1.heap.size _ (P.take k) (P.getD k 0) _ HC.out rfl rfl HT.out hlen hsz ?_; intro v1 w4 h1 b1)
      have HU : Hid (TxtAt w1.heap.size w4 v1 (P.take (k + 1))) := by show TxtAt _ _ _ _; rw [HTk.out]; exact h1
      have HB3 : Hid _ := HW.out.trans b1
      go_roundw
      case rel => exact ⟨k + 1, by omega, by go_num, HU.out, HB3.out⟩
      case measure => simp [intOf]; omega
    · have HT5 : Hid (TxtAt w1.heap.size wr u8 (P ++ List.replicate 0 48)) := by
        have := HT.out
        rw [List.take_of_length_le (by rw [HPl.out]; omega)] at this
        show TxtAt _ _ _ _
        simpa using this
      obtain rfl : k = p.size := by omega
      go_wp2_with fail
      clear HT hlt
      go_loopw [8, 10] (fun a b wx => ∃ k : Nat, k ≤ z ∧ b = .int .i64 k ∧ Hid (TxtAt w1.heap.size wx a (P ++ List.replicate k 48)) ∧ Hid (Below w1.heap.size w1 wx)) (fun _ b _ => z - (intOf b).toNat)
      case atStart => exact ⟨0, Nat.zero_le _, rfl, HT5.out, HW.out⟩
      case round =>
        obtain ⟨k, hk2, rfl, HT, HWx⟩ := hrel
        clear HT5 HW
        by_cases hlt : k < z
        · have HTk : Hid (P ++ List.replicate (k + 1) 48 = (P ++ List.replicate k 48) ++ [48]) := by
            show _ = _
            rw [List.replicate_succ', List.append_assoc]
          have hlen : (P ++ List.replicate k (48 : UInt8)).length ≤ 1073741824 := by rw [List.length_append, List.length_replicate, HPl.out]; omega
          have hsz := HWx.out.size
          go_wp2_with (at_builtin; refine wpList_put _ rfl (.tmp 62) (.tmp 63) rfl w1.heap.size _ (P ++ List.replicate k 48) 48 _ rfl rfl rfl HT.out hlen hsz ?_; intro v1 w4 h1 b1)
          have HU : Hid (TxtAt w1.heap.size w4 v1 (P ++ List.replicate (k + 1) 48)) := by show TxtAt _ _ _ _; rw [HTk.out]; exact h1
          have HB3 : Hid _ := HWx.out.trans b1
          go_roundw
          case rel => exact ⟨k + 1, by omega, by go_num, HU.out, HB3.out⟩
          case measure => simp [intOf]; omega
        · obtain rfl : k = z := by omega
          have HT5 : Hid (TxtAt w1.heap.size wr u8 (P ++ (List.replicate k 48 ++ d.take 0))) := by
            show TxtAt _ _ _ _
            simpa using HT.out
          clear HT hlt
          go_wp2_with fail
          go_loopw [8, 11] (fun a b wx => ∃ j : Nat, j ≤ d.length ∧ b = .int .i64 j ∧ Hid (TxtAt w1.heap.size wx a (P ++ (List.replicate k 48 ++ d.take j))) ∧ Hid (Below w1.heap.size w1 wx)) (fun _ b _ => d.length - (intOf b).toNat)
          case atStart => exact ⟨0, Nat.zero_le _, rfl, HT5.out, HWx.out⟩
          case round =>
            obtain ⟨j, hj2, rfl, HT, HWy⟩ := hrel
            clear HT5 HWx
            by_cases hlt : j < d.length
            · obtain ⟨b, o, rfl, g1⟩ := row_at HY.out HWy.out hlt
              have HTk : Hid (P ++ (List.replicate k 48 ++ d.take (j + 1)) = (P ++ (List.replicate k 48 ++ d.take j)) ++ [d.getD j 0]) := by
                show _ = _
                rw [List.take_succ_eq_append_getElem hlt, List.getD_eq_getElem?_getD, List.getElem?_eq_getElem hlt, Option.getD_some]
                simp only [List.append_assoc]
              have hlen : (P ++ (List.replicate k (48 : UInt8) ++ d.take j)).length ≤ 1073741824 := by
                rw [List.length_append, List.length_append, List.length_replicate, HPl.out, List.length_take]; omega
              have hsz := HWy.out.size
              go_wp2_with (at_builtin; refine wpList_put _ rfl (.tmp 71) (.tmp 76) rfl w1.heap.size _ (P ++ (List.replicate k 48 ++ d.take j)) (d.getD j 0) _ rfl rfl rfl HT.out hlen hsz ?_; intro v1 w4 h1 b1)
              have HU : Hid (TxtAt w1.heap.size w4 v1 (P ++ (List.replicate k 48 ++ d.take (j + 1)))) := by show TxtAt _ _ _ _; rw [HTk.out]; exact h1
              have HB3 : Hid _ := HWy.out.trans b1
              go_roundw
              case rel => exact ⟨j + 1, by omega, by go_num, HU.out, HB3.out⟩
              case measure => simp [intOf]; omega
            · obtain rfl : j = d.length := by omega
              have h1 := HT.out
              rw [List.take_length] at h1
              obtain ⟨X, hX⟩ : ∃ X, X = P ++ (List.replicate k 48 ++ d) := ⟨_, rfl⟩
              rw [← hX] at h1
              have hXl : X.length ≤ 2097152 := by rw [hX, List.length_append, List.length_append, List.length_replicate, HPl.out]; omega
              have HB1' : Hid (numbered X P = some v) := by show _ = _; rw [hX]; exact back_text HD.out.1 HD.out.2
              have HB2' : Hid (numbered (X ++ [120]) P = none) := by show _ = _; rw [hX]; exact back_x HD.out.2
              have HB3' : Hid (numbered (X ++ [55]) P = if v * 10 + 7 ≤ 65535 then some (v * 10 + 7) else none) := by show _ = _; rw [hX]; exact back_7 HD.out.2
              obtain ⟨g, cx, rfl, hcell⟩ := txt_cells h1 (by rw [hX]; simp [HD.out.1])
              have hcv := run_convert_bytes_back (P := Tryd.prog) wr 27 9 5 ⟨g, 0, none⟩ cx X Tryd.underlying27 Tryd.underlying5 Tryd.underlying9 hcell
              have HBw : Hid (Below w'.heap.size w' wr) := below_trans HB1.out HWy.out
              have HEr : Hid (Errs wr) := HE1.out.below HWy.out
              clear hX h1 hcell HT HWy HE1 HB1 HY HD
              go_wp2_with fail
              have e1 : numbered (ByteArray.mk X.toArray).data.toList p.data.toList = some v := by have h := HB1'.out; rw [HP.out] at h; exact h
              refine (zz_any _ _ _ (by show X.toArray.size ≤ _; rw [List.size_toArray]; omega) HEr.out).mono ?_
              rintro e w5 ⟨rfl, b5⟩
              rw [e1, val_some, ok_some]
              have HE5 : Hid (Errs w5) := HEr.out.below b5
              have HW5 : Hid (Below w'.heap.size w' w5) := below_trans HBw.out b5
              clear b5 e1 hcv HEr HBw
              have q1 : ((v : Int) != (v : Int)) = false := by simp
              go_wp2_with fail
              have e2 : numbered (ByteArray.mk X.toArray ++ ByteArray.mk #[120]).data.toList p.data.toList = none := by
                have h := HB2'.out
                rw [HP.out] at h
                rw [app_list]; exact h
              refine (zz_any _ _ _ (by rw [app_size]; omega) HE5.out).mono ?_
              rintro e w6 ⟨rfl, b6⟩
              rw [e2, val_none, ok_none]
              have HE6 : Hid (Errs w6) := HE5.out.below b6
              have HW6 : Hid (Below w'.heap.size w' w6) := below_trans HW5.out b6
              clear b6 e2 HE5 HW5
              go_wp2_with fail
              by_cases hw : v * 10 + 7 ≤ 65535
              · have e3 : numbered (ByteArray.mk X.toArray ++ ByteArray.mk #[55]).data.toList p.data.toList = some (v * 10 + 7) := by
                  have h := HB3'.out
                  rw [HP.out, if_pos hw] at h
                  rw [app_list]; exact h
                refine (zz_any _ _ _ (by rw [app_size]; omega) HE6.out).mono ?_
                rintro e w7 ⟨rfl, b7⟩
                rw [e3, ok_some, val_seven]
                have q2 : ((v : Int) * 10 + 7 == (v : Int) * 10 + 7) = true := by simp
                have hw' : (v : Int) * 10 + 7 ≤ 65535 := by omega
                clear e3
                go_wp2_with fail
                go_ret
                exact ⟨rfl, below_trans HW6.out b7⟩
              · have e3 : numbered (ByteArray.mk X.toArray ++ ByteArray.mk #[55]).data.toList p.data.toList = none := by
                  have h := HB3'.out
                  rw [HP.out, if_neg hw] at h
                  rw [app_list]; exact h
                refine (zz_any _ _ _ (by rw [app_size]; omega) HE6.out).mono ?_
                rintro e w7 ⟨rfl, b7⟩
                rw [e3, ok_none, val_none]
                have hw' : decide ((v : Int) * 10 + 7 ≤ 65535) = false := by simp; omega
                clear e3 hw HB1' HB2' HB3'
                go_wp2_with fail
                go_ret
                exact ⟨rfl, below_trans HW6.out b7⟩

set_option maxHeartbeats 1000000 in
theorem walk (p : ByteArray) (v z : Int) (w : World) (w0 : p.size ≤ maxLen) (w1 : (Lit.int .u16 v).wf = true) (w2 : (Lit.int .i64 z).wf = true) (hE : Errs w) :
    Calls Tryd.prog 4 #[.string p, .int .u16 v, .int .i64 z] w fun e w' => e = .returned (.bool true) ∧ Below w.heap.size w w' := by
  have bv := bounds_u16 w1
  have bz := bounds_i64 w2
  by_cases hp : p.size ≤ 1048576
  · by_cases hz : 0 ≤ z ∧ z ≤ 4096
    · obtain ⟨v', rfl⟩ := Int.eq_ofNat_of_zero_le bv.1
      obtain ⟨z', rfl⟩ := Int.eq_ofNat_of_zero_le hz.1
      exact walk_main p v' z' w hp (by omega) (by omega) hE
    · have hd : decide (p.size ≤ 1048576) = true := by simpa using hp
      have hz' : z < 0 ∨ 4096 < z := by omega
      clear hz hE w1 w2
      rcases hz' with h | h
      · go_enter Tryd.func4, Tryd.ntmps4
        go_wp2_with (go_at_call 8; refine (bytes_any _ _ _ _ w0).mono ?_; rintro e w' ⟨rfl, rfl⟩)
        go_ret
        exact ⟨rfl, Below.refl _ _⟩
      · have h' : ¬ z < 0 := by omega
        go_enter Tryd.func4, Tryd.ntmps4
        go_wp2_with (go_at_call 8; refine (bytes_any _ _ _ _ w0).mono ?_; rintro e w' ⟨rfl, rfl⟩)
        go_ret
        exact ⟨rfl, Below.refl _ _⟩
  · have hd : decide (p.size ≤ 1048576) = false := by simpa using hp
    clear hE w1 w2
    go_enter Tryd.func4, Tryd.ntmps4
    go_wp2_with (go_at_call 8; refine (bytes_any _ _ _ _ w0).mono ?_; rintro e w' ⟨rfl, rfl⟩)
    go_ret
    exact ⟨rfl, Below.refl _ _⟩
end Go.Proofs.Qxb6600206aDoor.BackWalk
