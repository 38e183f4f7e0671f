/-
  Seat b6600206a: the walk of strictSplitList (12) at a joined text.
-/
import Derived.Test.Qxb6600206aJoin
import Derived.Test.Qxb6600206aBackPlain
namespace Go.Proofs.Qxb6600206a.Sp
open Go.RowKit Go.Proofs.Qxb6600206a.Pl Go.Proofs.Qxb6600206a.Nm Go.Proofs.Qxb6600206a.By Go.Proofs.Qxb6600206a.Jp Go.Proofs.Qxb6600206a.It Go.Proofs.Qxb6600206a.Jo Go.Proofs.Qxb6600206a.Bk
set_option linter.unusedVariables false

/-- A slice of bytes whose block is a row of bytes. -/
def Row5 (w : World) (a : Option Addr) : Prop := ∀ x, a = some x → ∃ cur fr, w.heap[x.block]? = some (.cells cur 5 fr)

/-- The parts gathered so far: the slice v of the call's own, its block and its items' blocks below Bc. -/
def PartsAt (B Bc : Nat) (w : World) (v : Value) (M : List (List UInt8)) : Prop :=
  ∃ vals : List Value, w.ownsRow B 26 1 v M.length vals ∧ (∀ k, v.ownBlock = some k → k < Bc) ∧
    ∀ j, j < M.length → ∃ a' n' c', vals[j]? = some (.slice a' n' c') ∧ BytesAt w a' n' c' (M.getD j []) ∧ Row5 w a' ∧ ∀ x, a' = some x → x.block < Bc

theorem parts_start (B : Nat) (w : World) : PartsAt B B w (.slice none 0 0) [] :=
  ⟨[], World.ownsRow_nil _ _ _ _, fun k hk => by simp [Value.ownBlock] at hk, fun j hj => absurd hj (by simp)⟩

theorem bytes_block {w w' : World} {a : Option Addr} {n c : Nat} {l : List UInt8} (h : BytesAt w a n c l) (hs : w.heap.size ≤ w'.heap.size) (hb : ∀ x, a = some x → w'.heap[x.block]? = w.heap[x.block]?) : BytesAt w' a n c l := by
  obtain ⟨h1, h2, h3, h4, h5⟩ := h
  refine ⟨h1, h2, h3, h4, fun hn => ?_⟩
  obtain ⟨b, o, rfl, hlt, hc⟩ := h5 hn
  refine ⟨b, o, rfl, Nat.lt_of_lt_of_le hlt hs, fun i hi => ?_⟩
  exact (World.cell?_of_block (w := w) (a := ⟨b, o + i, none⟩) (hb ⟨b, o, none⟩ rfl)).trans (hc i hi)
theorem row5_block {w w' : World} {a : Option Addr} (h : Row5 w a) (hb : ∀ x, a = some x → w'.heap[x.block]? = w.heap[x.block]?) : Row5 w' a := fun x hx => by
  obtain ⟨cur, fr, e⟩ := h x hx
  exact ⟨cur, fr, (hb x hx).trans e⟩
theorem owns_block {w w' : World} {B : Nat} {e : TypeId} {v : Value} {n : Nat} {xs : List Value} (h : w.ownsRow B e 1 v n xs) (hb : ∀ k, v.ownBlock = some k → w'.heap[k]? = w.heap[k]?) : w'.ownsRow B e 1 v n xs := by
  obtain ⟨h1, h2⟩ := h
  refine ⟨h1, ?_⟩
  rcases h2 with h0 | ⟨g, cap, cur, rfl, h4, h5, h6⟩
  · exact Or.inl h0
  · exact Or.inr ⟨g, cap, cur, rfl, h4, (hb g rfl).trans h5, h6⟩

/-- What is written from Bc on does not touch the parts. -/
theorem PartsAt.below {B Bc : Nat} {w w' : World} {v : Value} {M : List (List UInt8)} (h : PartsAt B Bc w v M) (hb : Below Bc w w') : PartsAt B Bc w' v M := by
  obtain ⟨vals, h1, h2, h3⟩ := h
  refine ⟨vals, owns_block h1 (fun k hk => hb.block k (h2 k hk)), h2, fun j hj => ?_⟩
  obtain ⟨a', n', c', h4, h5, h6, h7⟩ := h3 j hj
  exact ⟨a', n', c', h4, bytes_block h5 hb.size (fun x hx => hb.block _ (h7 x hx)), row5_block h6 (fun x hx => hb.block _ (h7 x hx)), h7⟩

theorem txt_row5 {B : Nat} {w : World} {v : Value} {l : List UInt8} (h : TxtAt B w v l) : ∃ a c, v = .slice a l.length c ∧ BytesAt w a l.length c l ∧ Row5 w a := by
  obtain ⟨a, c, e, hb⟩ := h.bytes
  refine ⟨a, c, e, hb, fun x hx => ?_⟩
  obtain ⟨_, h2⟩ := h
  rcases h2 with ⟨h3, _⟩ | ⟨g, cap, cur, h3, h4, h5, _⟩
  · rw [h3] at e; simp at e; rw [← e.1] at hx; simp at hx
  · rw [h3] at e
    simp only [Value.slice.injEq] at e
    rw [← e.1] at hx
    obtain rfl := Option.some.inj hx
    exact ⟨cur, _, h5⟩

theorem own_block_26 {w : World} {B : Nat} {v : Value} {n : Nat} {xs : List Value} (h : w.ownsRow B 26 1 v n xs) {k : Nat} (hk : v.ownBlock = some k) : ∃ cur fr, w.heap[k]? = some (.cells cur 26 fr) := by
  obtain ⟨_, h2⟩ := h
  rcases h2 with ⟨rfl, _⟩ | ⟨g, cap, cur, rfl, h4, h5, _⟩
  · simp [Value.ownBlock] at hk
  · simp [Value.ownBlock] at hk
    subst hk
    exact ⟨cur, _, h5⟩

/-- 'parts = append(parts, cur)', cur laid in a new block of its own ahead of it. -/
theorem wpList_part {ops : Array Oper} {rest : List Oper} {o : Oper} {a : Act} {Q : Exit → Act → World → Prop} (wr : World) (hgd : o.guard = none) (s x : Operand)
    (ho : o.op = .call { callee := .builtin .append, args := #[s, x], argTypes := #[22, 22] }) (B Bc Bd : Nat) (v cv : Value) (M : List (List UInt8)) (y : List UInt8)
    (hs : a.eval s = v) (hx : a.eval x = .slice (some ⟨wr.heap.size, 0, none⟩) 1 1) (hown : PartsAt B Bc wr v M) (hcur : TxtAt Bd wr cv y) (hlen : M.length ≤ 1073741824) (hB : B ≤ wr.heap.size)
    (h : ∀ v' w', (∀ Be, w'.heap.size ≤ Be → PartsAt B Be w' v' (M ++ [y])) → Below B wr w' → wpList Try.prog ops Q rest (a.put o.dst v') w') : wpList Try.prog ops Q (o :: rest) a (wr.alloc (.cells #[cv] 26)) := by
  obtain ⟨i, hi, hz0, hz1, hz2⟩ := info_parts info26
  obtain ⟨vals, h1, h2, h3⟩ := hown
  obtain ⟨ca, cc, rfl, hcb, hc5⟩ := txt_row5 hcur
  refine wpList_append_own _ hgd s x 22 ho B 26 i (.slice none 0 0) 1 24 Try.underlying22 hi hz0 hz1 hz2 rfl (by decide) v M.length vals hs (h1.alloc _) ⟨wr.heap.size, 0, none⟩ 1 1 [.slice ca y.length cc] hx rfl ?_ ?_ ?_ ?_ ?_ ?_
  · intro j u hj
    match j, hj with
    | 0, hj => simp at hj; subst hj; simp [Addr.add]
  · intro u hu; simp at hu; subst hu; rfl
  · unfold maxLen; omega
  · omega
  · simp; omega
  · intro v' w1 h4 h5 _
    have hsz : wr.heap.size ≤ w1.heap.size := by have := h5.size; simp at this; omega
    have hkeep : ∀ (b : Nat) (cur : Array Value) (fr : Nat × Nat), wr.heap[b]? = some (.cells cur 5 fr) → w1.heap[b]? = wr.heap[b]? := by
      intro b cur fr hb
      have hlt : b < wr.heap.size := (Array.getElem?_eq_some_iff.1 hb).1
      rw [h5.block b (by simp; omega) (fun e => by
        obtain ⟨cur', fr', e2⟩ := own_block_26 h1 e.symm
        rw [e2] at hb; simp at hb), Below.heap_alloc _ _ _ hlt]
    have hl : vals.length = M.length := by have := h1.1; omega
    refine h v' w1 (fun Be hBe => ⟨vals ++ [.slice ca y.length cc], by rw [List.length_append, List.length_singleton]; exact h4, fun k hk => ?_, fun j hj => ?_⟩) ?_
    · obtain ⟨cur, fr, e⟩ := own_block_26 h4 hk
      have := (Array.getElem?_eq_some_iff.1 e).1
      omega
    · rw [List.length_append, List.length_singleton] at hj
      by_cases e : j < M.length
      · obtain ⟨a2, n2, c2, q1, q2, q3, q4⟩ := h3 j e
        have hk : ∀ x, a2 = some x → w1.heap[x.block]? = wr.heap[x.block]? := fun x hx => by obtain ⟨cur, fr, e5⟩ := q3 x hx; exact hkeep _ _ _ e5
        refine ⟨a2, n2, c2, ?_, ?_, row5_block q3 hk, fun x hx => ?_⟩
        · rw [List.getElem?_append_left (by omega)]; exact q1
        · have e3 : (M ++ [y]).getD j [] = M.getD j [] := by simp [List.getD, List.getElem?_append_left e]
          rw [e3]
          exact bytes_block q2 hsz hk
        · obtain ⟨cur, fr, e5⟩ := q3 x hx
          have := (Array.getElem?_eq_some_iff.1 e5).1
          omega
      · obtain rfl : j = M.length := by omega
        have hk : ∀ x, ca = some x → w1.heap[x.block]? = wr.heap[x.block]? := fun x hx => by obtain ⟨cur, fr, e5⟩ := hc5 x hx; exact hkeep _ _ _ e5
        refine ⟨ca, y.length, cc, ?_, ?_, row5_block hc5 hk, fun x hx => ?_⟩
        · rw [List.getElem?_append_right (by omega)]; simp [hl]
        · have e3 : (M ++ [y]).getD M.length [] = y := by simp [List.getD]
          rw [e3]
          exact bytes_block hcb hsz hk
        · obtain ⟨cur, fr, e5⟩ := hc5 x hx
          have := (Array.getElem?_eq_some_iff.1 e5).1
          omega
    · refine ((Below.refl B wr).alloc hB _).grown h5 (by simp; omega) ?_
      intro k hk
      obtain ⟨_, h6⟩ := h1
      rcases h6 with ⟨rfl, _⟩ | ⟨g, cap, cur, rfl, hg, _⟩
      · simp [Value.ownBlock] at hk
      · simp [Value.ownBlock] at hk; omega

theorem parts_done {B Bc : Nat} {w : World} {v : Value} {M : List (List UInt8)} (h : PartsAt B Bc w v M) : ∃ a c, v = .slice a M.length c ∧ RowsAt w a M.length c M := by
  obtain ⟨vals, ⟨h1, h2⟩, _, h3⟩ := h
  rcases h2 with ⟨rfl, h0⟩ | ⟨g, cap, cur, rfl, hg, h5, h6, h7, h8, h9⟩
  · exact ⟨none, 0, by rw [h0], rfl, by omega, by unfold maxLen; omega, fun _ => ⟨h0, rfl⟩, fun x => absurd x (by omega)⟩
  · refine ⟨_, cap, rfl, rfl, h6, h7, fun e => by simp at e, fun hn => ⟨g, 0, rfl, (Array.getElem?_eq_some_iff.1 h5).1, fun i hi => ?_⟩⟩
    obtain ⟨a', n', c', h11, h12, _⟩ := h3 i hi
    refine ⟨a', n', c', ?_, h12⟩
    rw [← h9, List.getElem?_take, if_pos (by omega)] at h11
    rw [Nat.zero_add]
    simp only [World.cell?, h5]
    simpa using h11

/-- A new empty text: '[]byte{}'. -/
theorem txt_fresh (w : World) : TxtAt w.heap.size (w.alloc (.cells #[] 5)) (.slice (some ⟨w.heap.size, 0, none⟩) 0 0) [] := by
  refine ⟨rfl, Or.inr ⟨w.heap.size, 0, #[], rfl, Nat.le_refl _, ?_, Nat.le_refl _, by unfold maxLen; omega, rfl, rfl⟩⟩
  show (w.heap.push _)[w.heap.size]? = _
  simp
theorem bv_get {T : List UInt8} {i : Nat} {c : UInt8} (h : T.getD i 0 = c) : bv T i = (c.toNat : Int) := by unfold bv; rw [h]

set_option maxHeartbeats 2000000 in
theorem split_any (a : Option Addr) (n c : Nat) (L : List (List UInt8)) (w : World) (h : BytesAt w a n c (joinL L)) (hne : L ≠ []) (ht : tot L ≤ 1048576) :
    Calls Try.prog 12 #[.slice a n c] w fun e w' => ∃ a' c', e = .returned (.tuple #[.slice a' L.length c', .bool true]) ∧ RowsAt w' a' L.length c' L ∧ Below w.heap.size w w' := by
  have hS := st_start L hne
  have hn : n ≤ 2097152 := by have := joinL_length L; have := h.1; omega
  have hLl : L.length ≤ 1048576 := by have := len_le_tot L; omega
  obtain ⟨T, hT⟩ : ∃ T, T = joinL L := ⟨_, rfl⟩
  rw [← hT] at h hS
  clear hT hne
  have HT : Hid (tot L ≤ 1048576) := ht
  have HA : Hid (BytesAt w a n c T) := h
  have HTn : Hid (T.length = n) := h.1
  have HS0 : Hid (St L T 0 0 0) := hS
  clear h ht hS
  go_enter Try.func12, Try.ntmps12
  go_wp2
  go_loopw [4, 5, 6] (fun v u iv wr => ∃ p j i Bc : Nat, iv = .int .i64 i ∧ i ≤ n ∧ Hid (St L T p j i) ∧ Hid (PartsAt w.heap.size Bc wr v (L.take p)) ∧ Hid (TxtAt Bc wr u ((L.getD p []).take j)) ∧ w.heap.size ≤ Bc ∧ Bc ≤ wr.heap.size ∧ Hid (Below w.heap.size w wr)) (fun _ _ i _ => n - (intOf i).toNat)
  case atStart => exact ⟨0, 0, 0, w.heap.size, rfl, Nat.zero_le _, HS0.out, parts_start _ _, txt_fresh w, Nat.le_refl _, by simp, (Below.refl _ _).alloc (Nat.le_refl _) _⟩
  case round =>
    obtain ⟨p, j, i, Bc, rfl, hi, HS, HP, HU, hB1, hB2, HB⟩ := hrel
    by_cases hlt : i < n
    · obtain ⟨b, o, rfl, g1⟩ := row_at HA.out HB.out hlt
      have hpL : p < L.length := HS.out.1
      have hxl : (L.getD p []).length ≤ 1048576 := by have := tot_get L p; have := HT.out; omega
      have hjl : ((L.getD p []).take j).length ≤ 1048576 := by rw [List.length_take]; omega
      have hpl : (L.take p).length ≤ 1048576 := by rw [List.length_take]; omega
      by_cases hj : j < (L.getD p []).length
      · obtain ⟨z, hz⟩ : ∃ z, z = (((L.getD p []).getD j 0).toNat : Int) := ⟨_, rfl⟩
        by_cases hsp : z = 44 ∨ z = 92
        · obtain ⟨e1, e2, e3, e4⟩ := st_esc HS.out hj (by rw [← hz]; exact hsp)
          rw [HTn.out] at e1
          obtain ⟨b2, o2, e5, g2⟩ := row_at HA.out HB.out e1
          simp only [Option.some.injEq, Addr.mk.injEq, and_true] at e5
          obtain ⟨rfl, rfl⟩ := e5
          rw [bv_get e2] at g1
          rw [bv_get e3, ← hz] at g2
          have g1' : wr.cell? ⟨b, o + i, none⟩ = some (.int .u8 92) := g1
          have HN : Hid (St L T p (j + 1) (i + 2)) := e4
          have HTk : Hid ((L.getD p []).take (j + 1) = (L.getD p []).take j ++ [(L.getD p []).getD j 0]) := take_snoc hj
          have HZ : Hid (z = (((L.getD p []).getD j 0).toNat : Int)) := hz
          have hle : (i : Int) + 1 < (n : Int) := by omega
          have hcase : (z != 44) = false ∨ ((z != 44) = true ∧ (z != 92) = false) := by
            rcases hsp with e | e
            · exact Or.inl (by simp [e])
            · exact Or.inr (by simp [e])
          clear g1 e1 e2 e3 e4 hsp hz hj
          rcases hcase with q1 | ⟨q1, q2⟩
          all_goals
            go_wp2_with (at_builtin; refine wpList_put _ rfl (.tmp 45) (.tmp 47) rfl Bc _ ((L.getD p []).take j) ((L.getD p []).getD j 0) _ HZ.out rfl rfl HU.out (by omega) hB2 ?_; intro v1 w1 h1 b1)
            have HU1 : Hid (TxtAt Bc w1 v1 ((L.getD p []).take (j + 1))) := by show TxtAt _ _ _ _; rw [HTk.out]; exact h1
            have HP1 : Hid _ := HP.out.below b1
            have HB3 : Hid _ := HB.out.trans (b1.mono hB1)
            go_roundw
            case rel => exact ⟨p, j + 1, i + 2, Bc, by go_num, by omega, HN.out, HP1.out, HU1.out, hB1, Nat.le_trans hB2 b1.size, HB3.out⟩
            case measure => simp [intOf]; omega
        · obtain ⟨e1, e2, e4⟩ := st_plain HS.out hj (by rw [← hz]; exact fun e => hsp (Or.inl e)) (by rw [← hz]; exact fun e => hsp (Or.inr e))
          rw [bv_get e2, ← hz] at g1
          have HN : Hid (St L T p (j + 1) (i + 1)) := e4
          have HTk : Hid ((L.getD p []).take (j + 1) = (L.getD p []).take j ++ [(L.getD p []).getD j 0]) := take_snoc hj
          have HZ : Hid (z = (((L.getD p []).getD j 0).toNat : Int)) := hz
          have q1 : (z == 44) = false := by simp only [beq_eq_false_iff_ne]; exact fun e => hsp (Or.inl e)
          have q2 : (z == 92) = false := by simp only [beq_eq_false_iff_ne]; exact fun e => hsp (Or.inr e)
          clear e1 e2 e4 hsp hz hj
          go_wp2_with (at_builtin; refine wpList_put _ rfl (.tmp 51) (.tmp 53) rfl Bc _ ((L.getD p []).take j) ((L.getD p []).getD j 0) _ HZ.out rfl rfl HU.out (by omega) hB2 ?_; intro v1 w1 h1 b1)
          have HU1 : Hid (TxtAt Bc w1 v1 ((L.getD p []).take (j + 1))) := by show TxtAt _ _ _ _; rw [HTk.out]; exact h1
          have HP1 : Hid _ := HP.out.below b1
          have HB3 : Hid _ := HB.out.trans (b1.mono hB1)
          go_roundw
          case rel => exact ⟨p, j + 1, i + 1, Bc, by go_num, by omega, HN.out, HP1.out, HU1.out, hB1, Nat.le_trans hB2 b1.size, HB3.out⟩
          case measure => simp [intOf]; omega
      · have hj' : j = (L.getD p []).length := by have := HS.out.2.1; omega
        obtain ⟨e1, e2, e3⟩ := st_comma HS.out hj' (by rw [HTn.out]; exact hlt)
        rw [bv_get e2] at g1
        have g1' : wr.cell? ⟨b, o + i, none⟩ = some (.int .u8 44) := g1
        have HN : Hid (St L T (p + 1) 0 (i + 1)) := e3
        have hu0 := HU.out
        rw [hj', List.take_length] at hu0
        clear HU
        have HTk : Hid (L.take (p + 1) = L.take p ++ [L.getD p []]) := take_get L p hpL
        obtain ⟨x, hx⟩ : ∃ x, x = L.getD p [] := ⟨_, rfl⟩
        rw [← hx] at hu0 HTk
        obtain ⟨ca, cc, rfl, _⟩ := hu0.bytes
        have HU0 : Hid (TxtAt Bc wr (.slice ca x.length cc) x) := hu0
        clear hu0 hx
        clear g1 e1 e2 e3 hj hj'
        go_wp2_with (at_builtin; refine wpList_part _ rfl (.tmp 20) (.tmp 22) rfl w.heap.size Bc Bc _ _ (L.take p) x rfl rfl HP.out HU0.out (by omega) (Nat.le_trans hB1 hB2) ?_; intro v1 w1 h1 b1)
        have HP1 : Hid (PartsAt w.heap.size w1.heap.size (w1.alloc (.cells #[] 5)) v1 (L.take (p + 1))) := by
          show PartsAt _ _ _ _ _
          rw [HTk.out]
          exact (h1 _ (Nat.le_refl _)).below ((Below.refl _ _).alloc (Nat.le_refl _) _)
        have HB3 : Hid (Below w.heap.size w (w1.alloc (.cells #[] 5))) := (HB.out.trans b1).alloc (HB.out.trans b1).size _
        have hsz : w.heap.size ≤ w1.heap.size := (HB.out.trans b1).size
        clear h1 b1
        go_roundw
        case rel => exact ⟨p + 1, 0, i + 1, w1.heap.size, by go_num, by omega, HN.out, HP1.out, txt_fresh w1, hsz, by simp, HB3.out⟩
        case measure => simp [intOf]; omega
    · obtain ⟨hs1, hs2⟩ := st_stop HS.out (by rw [HTn.out]; exact hlt)
      have hu0 := HU.out
      rw [hs1, List.take_length] at hu0
      clear HU
      have HTk : Hid (L = L.take p ++ [L.getD p []]) := by
        have e := take_get L p HS.out.1
        rw [List.take_of_length_le (by omega)] at e
        exact e
      obtain ⟨x, hx⟩ : ∃ x, x = L.getD p [] := ⟨_, rfl⟩
      rw [← hx] at hu0 HTk
      obtain ⟨ca, cc, rfl, _⟩ := hu0.bytes
      have HU0 : Hid (TxtAt Bc wr (.slice ca x.length cc) x) := hu0
      clear hx
      have hpl : (L.take p).length ≤ 1048576 := by rw [List.length_take]; omega
      clear hu0 hs1 hs2
      go_wp2_with (at_builtin; refine wpList_part _ rfl (.tmp 57) (.tmp 59) rfl w.heap.size Bc Bc _ _ (L.take p) x rfl rfl HP.out HU0.out (by omega) (Nat.le_trans hB1 hB2) ?_; intro v1 w1 h1 b1)
      have HP1 := h1 _ (Nat.le_refl _)
      rw [← HTk.out] at HP1
      obtain ⟨ra, rc, rfl, hr⟩ := parts_done HP1
      go_ret2
      exact ⟨ra, rc, rfl, hr, HB.out.trans b1⟩
end Go.Proofs.Qxb6600206a.Sp
