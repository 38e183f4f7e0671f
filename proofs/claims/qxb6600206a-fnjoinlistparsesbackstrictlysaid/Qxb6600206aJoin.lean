/-
  Seat b6600206a: the walks of joinList (22) and ZZJoinList (11).
-/
import Derived.Test.Qxb6600206aItems
namespace Go.Proofs.Qxb6600206a.Jo
open Go.RowKit Go.Proofs.Qxb6600206a.Pl Go.Proofs.Qxb6600206a.Nm Go.Proofs.Qxb6600206a.By Go.Proofs.Qxb6600206a.Jp Go.Proofs.Qxb6600206a.It
set_option linter.unusedVariables false

def cellsOf (l : List UInt8) : List Value := l.map fun c => .int .u8 (c.toNat : Int)
theorem cellsOf_length (l : List UInt8) : (cellsOf l).length = l.length := by simp [cellsOf]
theorem cellsOf_snoc (l : List UInt8) (c : UInt8) : cellsOf (l ++ [c]) = cellsOf l ++ [.int .u8 (c.toNat : Int)] := by simp [cellsOf]

/-- A text that the call itself is building. -/
def TxtAt (B : Nat) (w : World) (v : Value) (l : List UInt8) : Prop := w.ownsRow B 5 1 v l.length (cellsOf l)
theorem TxtAt.nil (B : Nat) (w : World) : TxtAt B w (.slice none 0 0) [] := World.ownsRow_nil _ _ _ _
theorem TxtAt.alloc {B : Nat} {w : World} {v : Value} {l : List UInt8} (h : TxtAt B w v l) (o : Obj) : TxtAt B (w.alloc o) v l := World.ownsRow.alloc h o
theorem TxtAt.bytes {B : Nat} {w : World} {v : Value} {l : List UInt8} (h : TxtAt B w v l) : ∃ a c, v = .slice a l.length c ∧ BytesAt w a l.length c l := by
  obtain ⟨h1, h2⟩ := h
  rcases h2 with ⟨rfl, h0⟩ | ⟨g, cap, cur, rfl, hg, hh, h3, h4, h5, h6⟩
  · refine ⟨none, 0, by rw [h0], rfl, by omega, by unfold maxLen; omega, fun _ => ⟨h0, rfl⟩, fun x => absurd x (by omega)⟩
  · refine ⟨_, cap, rfl, rfl, h3, h4, fun e => by simp at e, fun hn => ⟨g, 0, rfl, (Array.getElem?_eq_some_iff.1 hh).1, fun i hi => ?_⟩⟩
    have e : (cellsOf l)[i]? = some (.int .u8 (bv l i)) := by
      simp [cellsOf, bv, List.getD, hi]
    rw [← h6, List.getElem?_take, if_pos (by omega)] at e
    rw [Nat.zero_add]
    simp only [World.cell?, hh]
    simpa using e

/-- 'text = append(text, c)', the one byte laid in a new block of its own ahead of it. -/
theorem wpList_put {ops : Array Oper} {rest : List Oper} {o : Oper} {a : Act} {Q : Exit → Act → World → Prop} (wr : World) (hgd : o.guard = none) (s x : Operand)
    (ho : o.op = .call { callee := .builtin .append, args := #[s, x], argTypes := #[26, 26] }) (B : Nat) (v : Value) (l : List UInt8) (c : UInt8) (z : Int) (hz : z = (c.toNat : Int))
    (hs : a.eval s = v) (hx : a.eval x = .slice (some ⟨wr.heap.size, 0, none⟩) 1 1) (hown : TxtAt B wr v l) (hlen : l.length ≤ 1073741824) (hB : B ≤ wr.heap.size)
    (h : ∀ v' w', TxtAt B w' v' (l ++ [c]) → Below B wr w' → wpList Try.prog ops Q rest (a.put o.dst v') w') : wpList Try.prog ops Q (o :: rest) a (wr.alloc (.cells #[.int .u8 z] 5)) := by
  subst hz
  obtain ⟨i, hi, hz0, hz1, hz2⟩ := info_parts info5
  refine wpList_append_own _ hgd s x 26 ho B 5 i (.int .u8 0) 1 1 Try.underlying26 hi hz0 hz1 hz2 rfl (by decide) v l.length (cellsOf l) hs (hown.alloc _) ⟨wr.heap.size, 0, none⟩ 1 1 [.int .u8 (c.toNat : Int)] hx rfl ?_ ?_ ?_ ?_ ?_ ?_
  · intro j u hj
    match j, hj with
    | 0, hj => simp at hj; subst hj; simp [Addr.add]
  · intro u hu; simp at hu; subst hu; rfl
  · unfold maxLen; omega
  · omega
  · simp; omega
  · intro v' w1 h1 h2 _
    refine h v' w1 ?_ ?_
    · unfold TxtAt
      rw [cellsOf_snoc, List.length_append]
      exact h1
    · refine ((Below.refl B wr).alloc hB _).grown h2 (by simp; omega) ?_
      intro k hk
      obtain ⟨_, h5⟩ := hown
      rcases h5 with ⟨rfl, _⟩ | ⟨g, cap, cur, rfl, hg, _⟩
      · simp [Value.ownBlock] at hk
      · simp [Value.ownBlock] at hk; omega
/-! ### joinList -/
theorem txt_end {B : Nat} {w : World} {v : Value} {P x : List UInt8} {L : List (List UInt8)} {k : Nat} (h : TxtAt B w v (P ++ escL (x.take x.length))) (e : joinL (L.take (k + 1)) = P ++ escL x) : TxtAt B w v (joinL (L.take (k + 1))) := by
  rw [e]; rwa [List.take_length] at h
theorem txt_yes {B : Nat} {w : World} {v : Value} {P x l : List UInt8} {j : Nat} (hj : j < x.length) (e : l = P ++ escL (x.take j)) (hc : bv x j = 44 ∨ bv x j = 92) (h : TxtAt B w v (l ++ [92] ++ [x.getD j 0])) : TxtAt B w v (P ++ escL (x.take (j + 1))) := by
  rw [escL_step x j hj, esc_yes _ hc, ← List.append_assoc, ← e]; simpa using h
theorem txt_no {B : Nat} {w : World} {v : Value} {P x l : List UInt8} {j : Nat} (hj : j < x.length) (e : l = P ++ escL (x.take j)) (hc : ¬ bv x j = 44) (hd : ¬ bv x j = 92) (h : TxtAt B w v (l ++ [x.getD j 0])) : TxtAt B w v (P ++ escL (x.take (j + 1))) := by
  rw [escL_step x j hj, esc_no _ hc hd, ← List.append_assoc, ← e]; exact h
theorem row_at {w wr : World} {a : Option Addr} {n c : Nat} {l : List UInt8} (h : BytesAt w a n c l) (hb : Below w.heap.size w wr) {j : Nat} (hj : j < n) : ∃ b o, a = some ⟨b, o, none⟩ ∧ wr.cell? ⟨b, o + j, none⟩ = some (.int .u8 (bv l j)) := by
  obtain ⟨_, _, _, _, h5⟩ := h.below hb
  obtain ⟨b, o, e, _, hc⟩ := h5 (by omega)
  exact ⟨b, o, e, hc j hj⟩
theorem head_at {w wr : World} {a : Option Addr} {n c : Nat} {L : List (List UInt8)} (h : RowsAt w a n c L) (hb : Below w.heap.size w wr) {k : Nat} (hk : k < n) :
    ∃ b o a' n' c', a = some ⟨b, o, none⟩ ∧ wr.cell? ⟨b, o + k, none⟩ = some (.slice a' n' c') ∧ BytesAt w a' n' c' (L.getD k []) := by
  obtain ⟨_, _, _, _, h5⟩ := h
  obtain ⟨b, o, e, hlt, hc⟩ := h5 (by omega)
  obtain ⟨a', n', c', h6, h7⟩ := hc k hk
  exact ⟨b, o, a', n', c', e, (hb.cell (p := ⟨b, o + k, none⟩) hlt).trans h6, h7⟩

set_option maxHeartbeats 1000000 in
theorem joinList_any (a : Option Addr) (n c : Nat) (L : List (List UInt8)) (w : World) (h : RowsAt w a n c L) (ht : tot L ≤ 1048576) :
    Calls Try.prog 22 #[.slice a n c] w fun e w' => ∃ a' c', e = .returned (.slice a' (joinL L).length c') ∧ BytesAt w' a' (joinL L).length c' (joinL L) ∧ Below w.heap.size w w' := by
  have HR : Hid (RowsAt w a n c L) := h
  have hLn : Hid (L.length = n) := h.1
  have hn : n ≤ 1048576 := by have := len_le_tot L; have := h.1; omega
  have HT : Hid (tot L ≤ 1048576) := ht
  clear h ht
  go_enter Try.func22, Try.ntmps22
  go_wp2
  go_loopw [3, 10] (fun v i wr => ∃ k : Nat, k ≤ n ∧ i = .int .i64 k ∧ Hid (TxtAt w.heap.size wr v (joinL (L.take k))) ∧ Hid (Below w.heap.size w wr)) (fun _ i _ => n - (intOf i).toNat)
  case atStart => exact ⟨0, Nat.zero_le _, rfl, TxtAt.nil _ _, Below.refl _ _⟩
  case round =>
    obtain ⟨k, hk, rfl, HT0, HB0⟩ := hrel
    by_cases hlt : k < n
    · obtain ⟨b, o, a', n', c', rfl, g1, hy⟩ := head_at HR.out HB0.out hlt
      have HY : Hid (BytesAt w a' n' c' (L.getD k [])) := hy
      have HX0 : Hid ((L.getD k []).length = n') := hy.1
      have hn' : n' ≤ 1048576 := by have := tot_get L k; have := HT.out; have := hy.1; omega
      have hPl : (joinL (L.take k)).length ≤ 2097152 := by have := joinL_length (L.take k); have := tot_take L k; have := HT.out; omega
      have HJ0 : Hid (0 < k → joinL (L.take (k + 1)) = (joinL (L.take k) ++ [44]) ++ escL (L.getD k [])) := fun hk0 => joinL_next L k (by rw [hLn.out]; exact hlt) hk0
      have HJ1 : Hid (k = 0 → joinL (L.take (k + 1)) = joinL (L.take k) ++ escL (L.getD k [])) := fun hk0 => by subst hk0; exact joinL_first L (by rw [hLn.out]; exact hlt)
      clear hy
      obtain ⟨x, hx⟩ : ∃ x, x = L.getD k [] := ⟨_, rfl⟩
      rw [← hx] at HY HX0 HJ0 HJ1
      have HX : Hid (x.length = n') := HX0
      clear HX0 hx
      by_cases hk0 : 0 < k
      · have HJ : Hid (joinL (L.take (k + 1)) = (joinL (L.take k) ++ [44]) ++ escL x) := HJ0.out hk0
        have hsz0 := HB0.out.size
        clear HJ0 HJ1
        go_wp2_with (at_builtin; refine wpList_put _ rfl (.tmp 17) (.tmp 18) rfl w.heap.size _ (joinL (L.take k)) 44 _ rfl rfl rfl HT0.out (by omega) hsz0 ?_; intro v1 w1 h1 b1)
        have hPl1 : (joinL (L.take k) ++ [44]).length ≤ 2097153 := by rw [List.length_append, List.length_singleton]; omega
        have HB3 := HB0.out.trans b1
        clear HB0 HT0 b1 hPl
        have HT0 : Hid (TxtAt w.heap.size w1 v1 (joinL (L.take k) ++ [44])) := h1
        have HB0 : Hid (Below w.heap.size w w1) := HB3
        clear h1 HB3
        obtain ⟨P, hP⟩ : ∃ P, P = joinL (L.take k) ++ [44] := ⟨_, rfl⟩
        rw [← hP] at HT0 HJ hPl1
        clear hP
        go_wp2
        go_loopw [3, 22] (fun v i wi => ∃ j : Nat, j ≤ n' ∧ i = .int .i64 j ∧ Hid (TxtAt w.heap.size wi v (P ++ escL (x.take j))) ∧ Hid (Below w.heap.size w wi) ∧ w.heap.size ≤ wi.heap.size) (fun _ i _ => n' - (intOf i).toNat)
        case atStart => exact ⟨0, Nat.zero_le _, rfl, by show TxtAt _ _ _ _; simpa [escL] using HT0.out, HB0.out, HB0.out.size⟩
        case round =>
          obtain ⟨j, hj, rfl, HT1, HB1, hsz⟩ := hrel
          by_cases hjl : j < n'
          · obtain ⟨b', o', rfl, gj⟩ := row_at HY.out HB1.out hjl
            have hlen : (P ++ escL (x.take j)).length ≤ 1073741823 := by
              have e1 := escL_length (x.take j)
              have e2 : (x.take j).length ≤ j := List.length_take_le _ _
              rw [List.length_append]; omega
            obtain ⟨l, hl⟩ : ∃ l, l = P ++ escL (x.take j) := ⟨_, rfl⟩
            rw [← hl] at HT1 hlen
            have HL : Hid (l = P ++ escL (x.take j)) := hl
            clear hl
            have hlen1 : (l ++ [92]).length ≤ 1073741824 := by rw [List.length_append, List.length_singleton]; omega
            by_cases h44 : bv x j = 44 ∨ bv x j = 92
            · have HC : Hid (bv x j = 44 ∨ bv x j = 92) := h44
              have hcase : (bv x j == 44) = true ∨ ((bv x j == 44) = false ∧ (bv x j == 92) = true) := by
                rcases h44 with e | e
                · exact Or.inl (by simp [e])
                · exact Or.inr (by simp [e])
              clear h44
              rcases hcase with e1 | ⟨e1, e2⟩
              all_goals
                go_wp2_with (first | (at_builtin; refine wpList_put _ rfl (.tmp 32) (.tmp 33) rfl w.heap.size _ l 92 _ rfl rfl rfl HT1.out (by omega) hsz ?_; intro v1 w1 h1 b1) | (at_builtin; refine wpList_put _ rfl (.tmp 35) (.tmp 37) rfl w.heap.size _ (l ++ [92]) (x.getD j 0) _ rfl rfl rfl h1 hlen1 (Nat.le_trans hsz b1.size) ?_; intro v2 w2 h2 b2))
                have HN : Hid _ := txt_yes (by rw [HX.out]; exact hjl) HL.out HC.out h2
                have HB2 : Hid _ := (HB1.out.trans b1).trans b2
                go_roundw
                case rel => exact ⟨j + 1, by omega, by go_num, HN.out, HB2.out, HB2.out.size⟩
                case measure => simp [intOf]; omega
            · have HC : Hid (¬ (bv x j = 44 ∨ bv x j = 92)) := h44
              have hz1 : (bv x j == 44) = false := by simp only [beq_eq_false_iff_ne]; exact fun e => h44 (Or.inl e)
              have hz2 : (bv x j == 92) = false := by simp only [beq_eq_false_iff_ne]; exact fun e => h44 (Or.inr e)
              clear h44
              go_wp2_with (at_builtin; refine wpList_put _ rfl (.tmp 35) (.tmp 37) rfl w.heap.size _ l (x.getD j 0) _ rfl rfl rfl HT1.out (by omega) hsz ?_; intro v1 w1 h1 b1)
              have HN : Hid _ := txt_no (by rw [HX.out]; exact hjl) HL.out (fun e => HC.out (Or.inl e)) (fun e => HC.out (Or.inr e)) h1
              have HB2 : Hid _ := HB1.out.trans b1
              clear h1 b1
              go_wp2
              go_roundw
              case rel => exact ⟨j + 1, by omega, by go_num, HN.out, HB2.out, HB2.out.size⟩
              case measure => simp [intOf]; omega
          · obtain rfl : j = n' := by omega
            have HE : Hid _ := txt_end (by rw [HX.out]; exact HT1.out) HJ.out
            go_wp2
            go_roundw
            case rel => exact ⟨k + 1, by omega, by go_num, HE.out, HB1.out⟩
            case measure => simp [intOf]; omega
      · have hk1 : k = 0 := by omega
        have HJ : Hid (joinL (L.take (k + 1)) = joinL (L.take k) ++ escL x) := HJ1.out hk1
        clear HJ0 HJ1 hk1
        go_wp2
        obtain ⟨P, hP⟩ : ∃ P, P = joinL (L.take k) := ⟨_, rfl⟩
        rw [← hP] at HT0 HJ hPl
        clear hP
        go_loopw [3, 22] (fun v i wi => ∃ j : Nat, j ≤ n' ∧ i = .int .i64 j ∧ Hid (TxtAt w.heap.size wi v (P ++ escL (x.take j))) ∧ Hid (Below w.heap.size w wi) ∧ w.heap.size ≤ wi.heap.size) (fun _ i _ => n' - (intOf i).toNat)
        case atStart => exact ⟨0, Nat.zero_le _, rfl, by show TxtAt _ _ _ _; simpa [escL] using HT0.out, HB0.out, HB0.out.size⟩
        case round =>
          obtain ⟨j, hj, rfl, HT1, HB1, hsz⟩ := hrel
          by_cases hjl : j < n'
          · obtain ⟨b', o', rfl, gj⟩ := row_at HY.out HB1.out hjl
            have hlen : (P ++ escL (x.take j)).length ≤ 1073741823 := by
              have e1 := escL_length (x.take j)
              have e2 : (x.take j).length ≤ j := List.length_take_le _ _
              rw [List.length_append]; omega
            obtain ⟨l, hl⟩ : ∃ l, l = P ++ escL (x.take j) := ⟨_, rfl⟩
            rw [← hl] at HT1 hlen
            have HL : Hid (l = P ++ escL (x.take j)) := hl
            clear hl
            have hlen1 : (l ++ [92]).length ≤ 1073741824 := by rw [List.length_append, List.length_singleton]; omega
            by_cases h44 : bv x j = 44 ∨ bv x j = 92
            · have HC : Hid (bv x j = 44 ∨ bv x j = 92) := h44
              have hcase : (bv x j == 44) = true ∨ ((bv x j == 44) = false ∧ (bv x j == 92) = true) := by
                rcases h44 with e | e
                · exact Or.inl (by simp [e])
                · exact Or.inr (by simp [e])
              clear h44
              rcases hcase with e1 | ⟨e1, e2⟩
              all_goals
                go_wp2_with (first | (at_builtin; refine wpList_put _ rfl (.tmp 32) (.tmp 33) rfl w.heap.size _ l 92 _ rfl rfl rfl HT1.out (by omega) hsz ?_; intro v1 w1 h1 b1) | (at_builtin; refine wpList_put _ rfl (.tmp 35) (.tmp 37) rfl w.heap.size _ (l ++ [92]) (x.getD j 0) _ rfl rfl rfl h1 hlen1 (Nat.le_trans hsz b1.size) ?_; intro v2 w2 h2 b2))
                have HN : Hid _ := txt_yes (by rw [HX.out]; exact hjl) HL.out HC.out h2
                have HB2 : Hid _ := (HB1.out.trans b1).trans b2
                go_roundw
                case rel => exact ⟨j + 1, by omega, by go_num, HN.out, HB2.out, HB2.out.size⟩
                case measure => simp [intOf]; omega
            · have HC : Hid (¬ (bv x j = 44 ∨ bv x j = 92)) := h44
              have hz1 : (bv x j == 44) = false := by simp only [beq_eq_false_iff_ne]; exact fun e => h44 (Or.inl e)
              have hz2 : (bv x j == 92) = false := by simp only [beq_eq_false_iff_ne]; exact fun e => h44 (Or.inr e)
              clear h44
              go_wp2_with (at_builtin; refine wpList_put _ rfl (.tmp 35) (.tmp 37) rfl w.heap.size _ l (x.getD j 0) _ rfl rfl rfl HT1.out (by omega) hsz ?_; intro v1 w1 h1 b1)
              have HN : Hid _ := txt_no (by rw [HX.out]; exact hjl) HL.out (fun e => HC.out (Or.inl e)) (fun e => HC.out (Or.inr e)) h1
              have HB2 : Hid _ := HB1.out.trans b1
              clear h1 b1
              go_wp2
              go_roundw
              case rel => exact ⟨j + 1, by omega, by go_num, HN.out, HB2.out, HB2.out.size⟩
              case measure => simp [intOf]; omega
          · obtain rfl : j = n' := by omega
            have HE : Hid _ := txt_end (by rw [HX.out]; exact HT1.out) HJ.out
            go_wp2
            go_roundw
            case rel => exact ⟨k + 1, by omega, by go_num, HE.out, HB1.out⟩
            case measure => simp [intOf]; omega
    · obtain rfl : k = n := by omega
      have h1 := HT0.out
      rw [List.take_of_length_le (by rw [hLn.out]; exact Nat.le_refl _)] at h1
      obtain ⟨a', c', rfl, h2⟩ := h1.bytes
      have H2 : Hid (BytesAt wr a' (joinL L).length c' (joinL L)) := h2
      clear h1 h2 HT0
      go_wp2
      go_ret
      exact ⟨a', c', rfl, H2.out, HB0.out⟩

set_option maxHeartbeats 400000 in
theorem zzJoin_any (a : Option Addr) (n c : Nat) (L : List (List UInt8)) (w : World) (h : RowsAt w a n c L) (ht : tot L ≤ 1048576) :
    Calls Try.prog 11 #[.slice a n c] w fun e w' => ∃ a' c', e = .returned (.slice a' (joinL L).length c') ∧ BytesAt w' a' (joinL L).length c' (joinL L) ∧ Below w.heap.size w w' := by
  have HR : Hid (RowsAt w a n c L) := h
  have HT : Hid (tot L ≤ 1048576) := ht
  clear h ht
  go_enter Try.func11, Try.ntmps11
  go_wp2_with fail
  refine (joinList_any _ _ _ _ _ HR.out HT.out).mono ?_
  rintro e w' ⟨a', c', rfl, h1, h2⟩
  have H1 : Hid (BytesAt w' a' (joinL L).length c' (joinL L)) := h1
  clear h1
  go_wp2
  go_ret
  exact ⟨a', c', rfl, H1.out, h2⟩
end Go.Proofs.Qxb6600206a.Jo
