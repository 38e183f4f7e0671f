/-
  Seat b6600206a: the walk of FnJoinListSplitsAtTheSeam (4).
-/
import Derived.Test.Qxb6600206aJoin
namespace Go.Proofs.Qxb6600206a.SeamWalk
open Go.RowKit Go.Proofs.Qxb6600206a.Pl Go.Proofs.Qxb6600206a.Nm Go.Proofs.Qxb6600206a.By Go.Proofs.Qxb6600206a.Jp Go.Proofs.Qxb6600206a.It Go.Proofs.Qxb6600206a.Jo
set_option linter.unusedVariables false

/-- The list that the law itself gathers, in block B, with room for N. -/
def Coll (B N : Nat) (M : List (List UInt8)) (w : World) : Prop :=
  ∃ vals : List Value, w.ownsRow B 26 1 (.slice (some ⟨B, 0, none⟩) M.length N) M.length vals ∧
    ∀ j, j < M.length → ∃ a' n' c', vals[j]? = some (.slice a' n' c') ∧ BytesAt w a' n' c' (M.getD j []) ∧ ∀ x, a' = some x → B < x.block

theorem BytesAt.grown {w w' : World} {a : Option Addr} {n c : Nat} {l : List UInt8} {row : Option Nat} (h : BytesAt w a n c l) (hg : w.grownBy w' row) (hne : ∀ x, a = some x → some x.block ≠ row) : BytesAt w' a n c l := by
  obtain ⟨h1, h2, h3, h4, h5⟩ := h
  refine ⟨h1, h2, h3, h4, fun hn => ?_⟩
  obtain ⟨b, o, rfl, hlt, hc⟩ := h5 hn
  exact ⟨b, o, rfl, Nat.lt_of_lt_of_le hlt hg.size, fun i hi => hg.cell (hc i hi) (show some b ≠ row from hne ⟨b, o, none⟩ rfl)⟩

theorem Coll.below {B N : Nat} {M : List (List UInt8)} {w w' : World} (h : Coll B N M w) (hb : Below w.heap.size w w') : Coll B N M w' := by
  obtain ⟨vals, h1, h2⟩ := h
  refine ⟨vals, ?_, fun j hj => ?_⟩
  · obtain ⟨e, h3⟩ := h1
    refine ⟨e, ?_⟩
    rcases h3 with ⟨h4, _⟩ | ⟨g, cap, cur, h4, h5, h6, h7⟩
    · simp at h4
    · exact Or.inr ⟨g, cap, cur, h4, h5, (hb.block _ (Array.getElem?_eq_some_iff.1 h6).1).trans h6, h7⟩
  · obtain ⟨a', n', c', h3, h4, h5⟩ := h2 j hj
    exact ⟨a', n', c', h3, h4.below hb, h5⟩

theorem Coll.rows {B N : Nat} {M : List (List UInt8)} {w : World} (h : Coll B N M w) : RowsAt w (some ⟨B, 0, none⟩) M.length N M := by
  obtain ⟨vals, ⟨e, h1⟩, h2⟩ := h
  rcases h1 with ⟨h4, _⟩ | ⟨g, cap, cur, h4, h5, h6, h7, h8, h9, h10⟩
  · simp at h4
  · simp only [Value.slice.injEq, Option.some.injEq, Addr.mk.injEq] at h4
    obtain ⟨⟨rfl, _⟩, _, rfl⟩ := h4
    refine ⟨rfl, h7, h8, fun e => by simp at e, fun hn => ⟨B, 0, rfl, (Array.getElem?_eq_some_iff.1 h6).1, fun i hi => ?_⟩⟩
    obtain ⟨a', n', c', h11, h12, _⟩ := h2 i hi
    refine ⟨a', n', c', ?_, h12⟩
    rw [← h10, List.getElem?_take, if_pos (by omega)] at h11
    rw [Nat.zero_add]
    simp only [World.cell?, h6]
    simpa using h11

theorem wpList_putRow {ops : Array Oper} {rest : List Oper} {o : Oper} {a : Act} {Q : Exit → Act → World → Prop} (wr : World) (hgd : o.guard = none) (s x : Operand)
    (ho : o.op = .call { callee := .builtin .append, args := #[s, x], argTypes := #[22, 22] }) (B N k : Nat) (M : List (List UInt8)) (y : List UInt8) (a' : Option Addr) (n' c' : Nat)
    (hk : M.length = k) (hs : a.eval s = .slice (some ⟨B, 0, none⟩) k N) (hx : a.eval x = .slice (some ⟨wr.heap.size, 0, none⟩) 1 1) (hown : Coll B N M wr) (hy : BytesAt wr a' n' c' y) (hfr : ∀ x, a' = some x → B < x.block) (hroom : k + 1 ≤ N) (hB : B ≤ wr.heap.size)
    (h : ∀ w', Coll B N (M ++ [y]) w' → Below B wr w' → wpList Try.prog ops Q rest (a.put o.dst (.slice (some ⟨B, 0, none⟩) (k + 1) N)) w') : wpList Try.prog ops Q (o :: rest) a (wr.alloc (.cells #[.slice a' n' c'] 26)) := by
  subst hk
  obtain ⟨i, hi, hz0, hz1, hz2⟩ := info_parts info26
  obtain ⟨vals, h1, h2⟩ := hown
  refine wpList_append_fits _ hgd s x 22 ho B 26 i 1 Try.underlying22 hi hz1 B M.length N vals hs (h1.alloc _) ⟨wr.heap.size, 0, none⟩ 1 1 [.slice a' n' c'] hx rfl ?_ ?_ hroom ?_
  · intro j u hj
    match j, hj with
    | 0, hj => simp at hj; subst hj; simp [Addr.add]
  · intro u hu; simp at hu; subst hu; rfl
  · intro w1 h3 h4
    have g0 : wr.grownBy w1 (some B) := by
      have e1 := World.grownBy_alloc wr (.cells #[.slice a' n' c'] 26) (some B)
      exact ⟨h4.os.trans e1.os, h4.tape.trans e1.tape, h4.output.trans e1.output, Nat.le_trans e1.size h4.size, fun k hk hne => (h4.block k (Nat.lt_of_lt_of_le hk e1.size) hne).trans (e1.block k hk hne)⟩
    have hl : vals.length = M.length := by have := h1.1; omega
    refine h w1 ⟨vals ++ [.slice a' n' c'], by rw [List.length_append, List.length_singleton]; exact h3, fun j hj => ?_⟩ ?_
    · rw [List.length_append, List.length_singleton] at hj
      by_cases e : j < M.length
      · obtain ⟨a2, n2, c2, h5, h6, h7⟩ := h2 j e
        refine ⟨a2, n2, c2, ?_, ?_, h7⟩
        · rw [List.getElem?_append_left (by omega)]; exact h5
        · have e3 : (M ++ [y]).getD j [] = M.getD j [] := by simp [List.getD, List.getElem?_append_left e]
          rw [e3]
          exact BytesAt.grown h6 g0 (fun x hx' => by have := h7 x hx'; simp; omega)
      · obtain rfl : j = M.length := by omega
        refine ⟨a', n', c', ?_, ?_, hfr⟩
        · rw [List.getElem?_append_right (by omega)]; simp [hl]
        · have e3 : (M ++ [y]).getD M.length [] = y := by simp [List.getD]
          rw [e3]
          exact BytesAt.grown hy g0 (fun x hx' => by have := hfr x hx'; simp; omega)
    · exact ((Below.refl B wr).alloc hB _).grown h4 (by simp; omega) (fun k hk => by simp at hk; omega)

theorem coll_start {w w' : World} {N : Nat} (h : w'.ownsRow w.heap.size 26 1 (.slice (some ⟨w.heap.size, 0, none⟩) 0 N) 0 []) : Coll w.heap.size N [] w' :=
  ⟨[], h, fun j hj => absurd hj (by simp)⟩

theorem belowN {B : Nat} {a b : World} (h : Below B a b) (n : Nat) : Below B a (b.drewN n) := ⟨h.os, h.tape, h.output, h.size, h.block⟩
theorem bv_left {X l r : List UInt8} (h : X = l ++ 44 :: r) {i : Nat} (hi : i < l.length) : bv X i = bv l i := by
  subst h; unfold bv; rw [List.getD_eq_getElem?_getD, List.getElem?_append_left hi, ← List.getD_eq_getElem?_getD]
theorem bv_mid {X l r : List UInt8} (h : X = l ++ 44 :: r) : bv X l.length = 44 := by
  subst h; unfold bv; rw [List.getD_eq_getElem?_getD, List.getElem?_append_right (Nat.le_refl _), Nat.sub_self]; rfl
theorem bv_right {X l r : List UInt8} (h : X = l ++ 44 :: r) {i : Nat} (hi : i < r.length) : bv X (l.length + 1 + i) = bv r i := by
  subst h; unfold bv
  rw [List.getD_eq_getElem?_getD, List.getElem?_append_right (by omega), show l.length + 1 + i - l.length = i + 1 by omega, List.getElem?_cons_succ, ← List.getD_eq_getElem?_getD]

set_option maxHeartbeats 2000000 in
theorem walk (a : Option Addr) (n c : Nat) (L : List (List UInt8)) (a2 : Option Addr) (n2 c2 : Nat) (L2 : List (List UInt8)) (w : World) (h : RowsAt w a n c L) (h2 : RowsAt w a2 n2 c2 L2) :
    Calls Try.prog 4 #[.slice a n c, .slice a2 n2 c2] w fun e w' => e = .returned (.bool true) ∧ Below w.heap.size w w' := by
  have HR : Hid (RowsAt w a n c L) := h
  have HR2 : Hid (RowsAt w a2 n2 c2 L2) := h2
  have hn : n ≤ 9223372036854775807 := by have h2 := h.2.1; have h3 := h.2.2.1; unfold maxLen at h3; omega
  have hn2 : n2 ≤ 9223372036854775807 := by have h3 := h2.2.1; have h4 := h2.2.2.1; unfold maxLen at h4; omega
  clear h h2
  go_enter Try.func4, Try.ntmps4
  go_wp2_with fail
  refine (bytes14_any _ _ _ _ _ _ _ _ _ HR.out HR2.out).mono ?_
  rintro e w0 ⟨⟨t, rfl⟩, rfl⟩
  cases t with
  | false =>
    go_wp2
    go_ret
    exact ⟨rfl, Below.refl _ _⟩
  | true =>
    go_wp2_with fail
    refine (itemsBytes_any _ _ _ _ _ HR.out).mono ?_
    rintro e w0 ⟨⟨t1, rfl, h10, h11, h12⟩, rfl⟩
    have HT1 : Hid (t1 ≤ 1048576 → (tot L : Int) ≤ t1) := h12
    clear h12
    go_wp2_with fail
    refine (itemsBytes_any _ _ _ _ _ HR2.out).mono ?_
    rintro e w0 ⟨⟨t2, rfl, h20, h21, h22⟩, rfl⟩
    have HT2 : Hid (t2 ≤ 1048576 → (tot L2 : Int) ≤ t2) := h22
    clear h22
    by_cases hc : t1 + t2 ≤ 1048576
    · have hb1 : tot L + tot L2 ≤ 1048576 := by have := HT1.out (by omega); have := HT2.out (by omega); omega
      by_cases hz : n = 0 ∨ n2 = 0
      · have hz' : ((n : Int) == 0) = true ∨ (((n : Int) == 0) = false ∧ ((n2 : Int) == 0) = true) := by
          by_cases e : n = 0
          · exact Or.inl (by simp [e])
          · exact Or.inr ⟨by simp [e], by rcases hz with hz | hz <;> simp_all⟩
        have HB1 : Hid _ := hb1
        clear hz hb1
        rcases hz' with e1 | ⟨e1, e2⟩
        all_goals
          go_wp2_with fail
          go_ret
          exact ⟨rfl, Below.refl _ _⟩
      · have e1 : ((n : Int) == 0) = false := by simp; omega
        have e2 : ((n2 : Int) == 0) = false := by simp; omega
        have hp1 : 0 < n := by omega
        have hp2 : 0 < n2 := by omega
        have HB1 : Hid (tot L + tot L2 ≤ 1048576) := hb1
        have d1 : decide (1048576 < t1) = false := by simp; omega
        have d2 : decide (1048576 < t2) = false := by simp; omega
        have d3 : decide (1048576 < t1 + t2) = false := by simp; omega
        clear hz hb1
        go_wp2_with fail
        refine (copyItems_any _ _ _ _ _ HR.out (by have := HB1.out; omega)).mono ?_
        rintro e w1 ⟨a3, c3, rfl, r1, b1⟩
        have HR3 : Hid (RowsAt w1 a3 n c3 L) := r1
        have HR4 : Hid (RowsAt w1 a2 n2 c2 L2) := HR2.out.below b1
        have HW1 : Hid (Below w0.heap.size w0 w1) := b1
        clear r1 b1
        go_wp2_with fail
        refine (copyItems_any _ _ _ _ _ HR4.out (by have := HB1.out; omega)).mono ?_
        rintro e w2 ⟨a4, c4, rfl, r2, b2⟩
        have HA : Hid (RowsAt w2 a3 n c3 L) := HR3.out.below b2
        have HB : Hid (RowsAt w2 a4 n2 c4 L2) := r2
        have HW2 : Hid (Below w0.heap.size w0 w2) := below_trans HW1.out b2
        clear r2 b2 HR3 HR4 HW1
        have hn' : n ≤ 1048576 := by have := len_le_tot L; have := HA.out.1; have := HB1.out; omega
        have hn2' : n2 ≤ 1048576 := by have := len_le_tot L2; have := HB.out.1; have := HB1.out; omega
        obtain ⟨i0, hi, hz0, hz1, hz2⟩ := info_parts info26
        have hby : i0.bytes * (n + n2) ≤ 281474976710656 := by rw [hz2]; omega
        have hml : n + n2 ≤ maxLen := by unfold maxLen; omega
        have HI : Hid (Try.prog.info? 26 = some i0 ∧ i0.zero = some (.slice none 0 0) ∧ i0.size = 1) := ⟨hi, hz0, hz1⟩
        clear hi hz0 hz1 hz2
        go_wp2_with (at_make; refine wpList_make_own _ rfl _ _ 22 rfl w2.heap.size 26 i0 (.slice none 0 0) 1 Try.underlying22 HI.out.1 HI.out.2.1 HI.out.2.2 _ _ _ (n + n2) rfl rfl (by omega) hby hml (Nat.le_refl _) ?_; intro w3 h3 g3)
        have HC3 : Hid (Coll w2.heap.size (n + n2) [] w3) := coll_start h3
        have HW3 : Hid (Below w2.heap.size w2 w3) := (Below.refl _ _).grown g3 (Nat.le_refl _) (fun k hk => by simp at hk)
        have hs3 : w2.heap.size < w3.heap.size := by
          obtain ⟨_, h5⟩ := h3
          rcases h5 with ⟨h6, _⟩ | ⟨g, cap, cur, h6, h7, h8, _⟩
          · simp at h6
          · have := (Array.getElem?_eq_some_iff.1 h8).1; omega
        clear h3 g3 HI hby hml
        go_loopw [7, 8] (fun v i wr => ∃ k : Nat, k ≤ n ∧ i = .int .i64 k ∧ v = .slice (some ⟨w2.heap.size, 0, none⟩) k (n + n2) ∧ Hid (Coll w2.heap.size (n + n2) (L.take k) wr) ∧ Hid (Below w2.heap.size w2 wr) ∧ w2.heap.size < wr.heap.size) (fun _ i _ => n - (intOf i).toNat)
        case atStart => exact ⟨0, Nat.zero_le _, rfl, rfl, HC3.out, HW3.out, hs3⟩
        case round =>
          obtain ⟨k, hk, rfl, rfl, HC, HWr, hsr⟩ := hrel
          clear HC3 HW3 hs3
          by_cases hlt : k < n
          · obtain ⟨b, o, a', n', c', rfl, g1, hy⟩ := head_at HA.out HWr.out hlt
            have HY : Hid (BytesAt wr a' n' c' (L.getD k [])) := hy.below HWr.out
            have hn'' : n' ≤ 1048576 := by have := tot_get L k; have := HB1.out; have := hy.1; omega
            clear hy
            go_wp2_with fail
            refine (copyBytes_any _ _ _ _ _ HY.out hn'').mono ?_
            rintro e w4 ⟨a5, c5, rfl, hy5, hfr, b5⟩
            have hcoll := HC.out.below b5
            have hB4 : w2.heap.size ≤ w4.heap.size := Nat.le_trans (Nat.le_of_lt hsr) b5.size
            have hfr' : ∀ x, a5 = some x → w2.heap.size < x.block := fun x hx => Nat.lt_of_lt_of_le hsr (hfr x hx)
            have hlk : (L.take k).length = k := by rw [List.length_take, HA.out.1]; omega
            have htk := take_get L k (by rw [HA.out.1]; exact hlt)
            have HX : Hid (Coll w2.heap.size (n + n2) (L.take k) w4 ∧ BytesAt w4 a5 n' c5 (L.getD k []) ∧ (∀ x, a5 = some x → w2.heap.size < x.block) ∧ (L.take k).length = k ∧ L.take (k + 1) = L.take k ++ [L.getD k []] ∧ Below wr.heap.size wr w4) := ⟨hcoll, hy5, hfr', hlk, htk, b5⟩
            clear hcoll hy5 hfr hfr' hlk htk b5 g1
            go_wp2_with (at_builtin; refine wpList_putRow _ rfl (.tmp 59) (.tmp 65) rfl w2.heap.size (n + n2) k (L.take k) (L.getD k []) a5 n' c5 HX.out.2.2.2.1 rfl rfl HX.out.1 HX.out.2.1 HX.out.2.2.1 (by omega) hB4 ?_; intro w5 h5 b6)
            go_roundw
            case rel => exact ⟨k + 1, by omega, by go_num, rfl, by show Coll _ _ _ _; rw [HX.out.2.2.2.2.1]; exact h5, (HWr.out.trans (HX.out.2.2.2.2.2.mono (Nat.le_of_lt hsr))).trans b6, Nat.lt_of_lt_of_le (Nat.lt_of_lt_of_le hsr HX.out.2.2.2.2.2.size) b6.size⟩
            case measure => simp [intOf]; omega
          · obtain rfl : k = n := by omega
            go_wp2_with fail
            have HC5 : Hid (Coll w2.heap.size (k + n2) L wr) := by
              have := HC.out
              rw [List.take_of_length_le (by rw [HA.out.1]; exact Nat.le_refl _)] at this
              exact this
            clear HC hlt
            go_loopw [7, 9] (fun v i wi => ∃ j : Nat, j ≤ n2 ∧ i = .int .i64 j ∧ v = .slice (some ⟨w2.heap.size, 0, none⟩) (k + j) (k + n2) ∧ Hid (Coll w2.heap.size (k + n2) (L ++ L2.take j) wi) ∧ Hid (Below w2.heap.size w2 wi) ∧ w2.heap.size < wi.heap.size) (fun _ i _ => n2 - (intOf i).toNat)
            case atStart => exact ⟨0, Nat.zero_le _, rfl, rfl, by show Coll _ _ _ _; simpa using HC5.out, HWr.out, hsr⟩
            case round =>
              obtain ⟨j, hj, rfl, rfl, HC, HWi, hsi⟩ := hrel
              clear HC5 HWr hsr
              by_cases hlt : j < n2
              · obtain ⟨b, o, a', n', c', rfl, g1, hy⟩ := head_at HB.out HWi.out hlt
                have HY : Hid (BytesAt wr a' n' c' (L2.getD j [])) := hy.below HWi.out
                have hn'' : n' ≤ 1048576 := by have := tot_get L2 j; have := HB1.out; have := hy.1; omega
                clear hy
                go_wp2_with fail
                refine (copyBytes_any _ _ _ _ _ HY.out hn'').mono ?_
                rintro e w4 ⟨a5, c5, rfl, hy5, hfr, b5⟩
                have hcoll := HC.out.below b5
                have hB4 : w2.heap.size ≤ w4.heap.size := Nat.le_trans (Nat.le_of_lt hsi) b5.size
                have hfr' : ∀ x, a5 = some x → w2.heap.size < x.block := fun x hx => Nat.lt_of_lt_of_le hsi (hfr x hx)
                have hlk : (L ++ L2.take j).length = k + j := by rw [List.length_append, List.length_take, HA.out.1, HB.out.1]; omega
                have htk : L ++ L2.take (j + 1) = (L ++ L2.take j) ++ [L2.getD j []] := by rw [take_get L2 j (by rw [HB.out.1]; exact hlt), List.append_assoc]
                have HX : Hid (Coll w2.heap.size (k + n2) (L ++ L2.take j) w4 ∧ BytesAt w4 a5 n' c5 (L2.getD j []) ∧ (∀ x, a5 = some x → w2.heap.size < x.block) ∧ (L ++ L2.take j).length = k + j ∧ L ++ L2.take (j + 1) = (L ++ L2.take j) ++ [L2.getD j []] ∧ Below wr.heap.size wr w4) := ⟨hcoll, hy5, hfr', hlk, htk, b5⟩
                clear hcoll hy5 hfr hfr' hlk htk b5 g1
                go_wp2_with (at_builtin; refine wpList_putRow _ rfl (.tmp 73) (.tmp 79) rfl w2.heap.size (k + n2) (k + j) (L ++ L2.take j) (L2.getD j []) a5 n' c5 HX.out.2.2.2.1 rfl rfl HX.out.1 HX.out.2.1 HX.out.2.2.1 (by omega) hB4 ?_; intro w5 h5 b6)
                go_roundw
                case rel => exact ⟨j + 1, by omega, by go_num, rfl, by show Coll _ _ _ _; rw [HX.out.2.2.2.2.1]; exact h5, (HWi.out.trans (HX.out.2.2.2.2.2.mono (Nat.le_of_lt hsi))).trans b6, Nat.lt_of_lt_of_le (Nat.lt_of_lt_of_le hsi HX.out.2.2.2.2.2.size) b6.size⟩
                case measure => simp [intOf]; omega
              · obtain rfl : j = n2 := by omega
                have hR0 : RowsAt wr (some ⟨w2.heap.size, 0, none⟩) (L ++ L2).length (k + j) (L ++ L2) := by
                  have := HC.out
                  rw [List.take_of_length_le (by rw [HB.out.1]; exact Nat.le_refl _)] at this
                  exact this.rows
                have hlen : (L ++ L2).length = k + j := by rw [List.length_append, HA.out.1, HB.out.1]
                rw [hlen] at hR0
                have HRW : Hid (RowsAt wr (some ⟨w2.heap.size, 0, none⟩) (k + j) (k + j) (L ++ L2)) := hR0
                have HRA : Hid (RowsAt wr a3 k c3 L) := HA.out.below HWi.out
                have HRB : Hid (RowsAt wr a4 j c4 L2) := HB.out.below HWi.out
                have HWW : Hid (Below w0.heap.size w0 wr) := below_trans HW2.out HWi.out
                have HSeam : Hid (joinL (L ++ L2) = joinL L ++ 44 :: joinL L2) := seam L L2 (fun e => by have := HA.out.1; rw [e] at this; simp at this; omega) (fun e => by have := HB.out.1; rw [e] at this; simp at this; omega)
                have HTot : Hid (tot (L ++ L2) ≤ 1048576 ∧ tot L ≤ 1048576 ∧ tot L2 ≤ 1048576) := by
                  have h1 := HB1.out
                  have h2 := tot_append L L2
                  exact ⟨by omega, by omega, by omega⟩
                clear HC hlt HWi hsi hR0 hlen HA HB HW2 HR HR2 HT1 HT2
                go_wp2_with fail
                refine (zzJoin_any _ _ _ _ _ HRW.out HTot.out.1).mono ?_
                rintro e w6 ⟨a6, c6, rfl, y6, b6⟩
                have HY6 : Hid (BytesAt w6 a6 (joinL (L ++ L2)).length c6 (joinL (L ++ L2))) := y6
                have HRA6 : Hid (RowsAt w6 a3 k c3 L) := HRA.out.below b6
                have HRB6 : Hid (RowsAt w6 a4 j c4 L2) := HRB.out.below b6
                have HW6 : Hid (Below w0.heap.size w0 w6) := below_trans HWW.out b6
                clear y6 b6 HRA HRB HWW HRW
                go_wp2_with fail
                refine (zzJoin_any _ _ _ _ _ HRA6.out HTot.out.2.1).mono ?_
                rintro e w7 ⟨a7, c7, rfl, y7, b7⟩
                have HY67 : Hid (BytesAt w7 a6 (joinL (L ++ L2)).length c6 (joinL (L ++ L2))) := HY6.out.below b7
                have HY7 : Hid (BytesAt w7 a7 (joinL L).length c7 (joinL L)) := y7
                have HRB7 : Hid (RowsAt w7 a4 j c4 L2) := HRB6.out.below b7
                have HW7 : Hid (Below w0.heap.size w0 w7) := below_trans HW6.out b7
                clear y7 b7 HRA6 HRB6 HW6 HY6
                go_wp2_with fail
                refine (zzJoin_any _ _ _ _ _ HRB7.out HTot.out.2.2).mono ?_
                rintro e w8 ⟨a8, c8, rfl, y8, b8⟩
                obtain ⟨X, hX⟩ : ∃ X, X = joinL (L ++ L2) := ⟨_, rfl⟩
                obtain ⟨l, hl⟩ : ∃ l, l = joinL L := ⟨_, rfl⟩
                obtain ⟨r, hr⟩ : ∃ r, r = joinL L2 := ⟨_, rfl⟩
                have hll : l.length ≤ 2097152 := by have := joinL_length L; have := HTot.out.2.1; rw [hl]; omega
                have hrl : r.length ≤ 2097152 := by have := joinL_length L2; have := HTot.out.2.2; rw [hr]; omega
                rw [← hX, ← hl, ← hr] at HSeam
                rw [← hX] at HY67
                rw [← hl] at HY7
                rw [← hr] at y8
                rw [← hX, ← hl, ← hr]
                have HY8 : Hid (BytesAt w8 a8 r.length c8 r) := y8
                have HY88 : Hid (BytesAt w8 a7 l.length c7 l) := HY7.out.below b8
                have HY888 : Hid (BytesAt w8 a6 X.length c6 X) := HY67.out.below b8
                have HW8 : Hid (Below w0.heap.size w0 w8) := below_trans HW7.out b8
                clear y8 b8 HRB7 HW7 HY67 HY7 hX hl hr
                have hlen : X.length = l.length + 1 + r.length := by rw [HSeam.out]; simp; omega
                have hne : ((X.length : Int) != (l.length : Int) + 1 + (r.length : Int)) = false := by simp; omega
                have HLen : Hid (X.length = l.length + 1 + r.length) := hlen
                have hlX : l.length + 1 + r.length ≤ X.length := by omega
                clear hlen
                go_wp2_with fail
                clear hne
                go_loopw [13] (fun i wi => ∃ p : Nat, p ≤ l.length ∧ i = .int .i64 p ∧ Hid (Below w8.heap.size w8 wi)) (fun i _ => l.length - (intOf i).toNat)
                case atStart => exact ⟨0, Nat.zero_le _, rfl, Below.refl _ _⟩
                case round =>
                  obtain ⟨p, hp, rfl, HBp⟩ := hrel
                  by_cases hlt : p < l.length
                  · obtain ⟨b1, o1, rfl, g1⟩ := row_at HY888.out HBp.out (show p < X.length by omega)
                    obtain ⟨b2, o2, rfl, g2⟩ := row_at HY88.out HBp.out hlt
                    rw [bv_left HSeam.out hlt] at g1
                    have hpX : (p : Int) < (X.length : Int) := by omega
                    have hpl : (p : Int) < (l.length : Int) := by omega
                    go_wp2
                    go_quiet (fail)
                    go_wp2
                    go_roundw
                    case rel => exact ⟨p + 1, by omega, by go_num, belowN HBp.out _⟩
                    case measure => simp [intOf]; omega
                  · obtain rfl : p = l.length := by omega
                    obtain ⟨b1, o1, rfl, g1⟩ := row_at HY888.out HBp.out (show l.length < X.length by omega)
                    rw [bv_mid HSeam.out] at g1
                    go_wp2_with fail
                    clear g1
                    go_loopw [14] (fun i wi => ∃ p : Nat, p ≤ r.length ∧ i = .int .i64 p ∧ Hid (Below w8.heap.size w8 wi)) (fun i _ => r.length - (intOf i).toNat)
                    case atStart => exact ⟨0, Nat.zero_le _, rfl, HBp.out⟩
                    case round =>
                      obtain ⟨q, hq, rfl, HBq⟩ := hrel
                      by_cases hlt2 : q < r.length
                      · obtain ⟨b3, o3, e3, g1⟩ := row_at HY888.out HBq.out (show l.length + 1 + q < X.length by omega)
                        simp only [Option.some.injEq, Addr.mk.injEq, and_true] at e3
                        obtain ⟨rfl, rfl⟩ := e3
                        obtain ⟨b2, o2, rfl, g2⟩ := row_at HY8.out HBq.out hlt2
                        rw [bv_right HSeam.out hlt2] at g1
                        have hpX : (l.length : Int) + 1 + (q : Int) < (X.length : Int) := by omega
                        have hpl : (q : Int) < (r.length : Int) := by omega
                        go_wp2
                        go_quiet (fail)
                        go_wp2
                        go_roundw
                        case rel => exact ⟨q + 1, by omega, by go_num, belowN HBq.out _⟩
                        case measure => simp [intOf]; omega
                      · obtain rfl : q = r.length := by omega
                        go_wp2
                        go_ret
                        exact ⟨rfl, below_trans HW8.out HBq.out⟩
    · clear HT1 HT2
      go_wp2_with fail
      all_goals (go_ret; exact ⟨rfl, Below.refl _ _⟩)
end Go.Proofs.Qxb6600206a.SeamWalk
