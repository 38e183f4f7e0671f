/-
  Seat b6600206a: slices of byte slices: the walks of itemsBytes (9), zzBytes (14, 8), copyItems (10).
-/
import Derived.Test.Qxb6600206aBytes
import Derived.Test.Qxb6600206aJoinPlain
namespace Go.Proofs.Qxb6600206a.It
open Go.RowKit Go.Proofs.Qxb6600206a.Pl Go.Proofs.Qxb6600206a.Nm Go.Proofs.Qxb6600206a.By Go.Proofs.Qxb6600206a.Jp
set_option linter.unusedVariables false

theorem items_step {L : List (List UInt8)} {n k m : Nat} {T : Int} (hL : L.length = n) (hk : k < n) (hm : (L.getD k []).length = m) (h : T = 24 * n + tot (L.take k) - k) : T + m = 24 * n + tot (L.take (k + 1)) - (k + 1 : Nat) := by
  rw [tot_take_get L k (by omega)]
  omega
theorem items_done {L : List (List UInt8)} {n : Nat} {T : Int} (hL : L.length = n) (h : T = 24 * n + tot (L.take n) - n) (ht : T ≤ 1048576) : (tot L : Int) ≤ T := by
  rw [List.take_of_length_le (by omega)] at h
  omega

def SomeBool (e : Ending) : Prop := ∃ t : Bool, e = .returned (.bool t)

set_option maxHeartbeats 400000 in
theorem itemsBytes_any (a : Option Addr) (n c : Nat) (L : List (List UInt8)) (w : World) (h : RowsAt w a n c L) :
    Calls Try.prog 9 #[.slice a n c] w fun e w' => (∃ t : Int, e = .returned (.int .i64 t) ∧ 0 ≤ t ∧ t ≤ 4194304 ∧ (t ≤ 1048576 → (tot L : Int) ≤ t)) ∧ w' = w := by
  obtain ⟨h1, h2, h3, h4, h5⟩ := h
  unfold maxLen at h3
  have H1 : Hid (L.length = n) := h1
  have H5 : Hid _ := h5
  clear h4 h5 h1
  by_cases hn : n ≤ 65536
  · go_enter Try.func9, Try.ntmps9
    go_wp2
    go_loop [3, 4] (fun t i => ∃ (k : Nat) (T : Int), k ≤ n ∧ i = .int .i64 k ∧ t = .int .i64 T ∧ 0 ≤ T ∧ T ≤ 1572864 ∧ Hid (T = 24 * n + tot (L.take k) - k)) (fun _ i => n - (intOf i).toNat)
    case atStart => exact ⟨0, 24 * n, Nat.zero_le _, rfl, rfl, by omega, by omega, by show _ = _; simp [tot]⟩
    case round =>
      obtain ⟨k, T, hk, rfl, rfl, hT0, hT1, HT⟩ := hrel
      by_cases hlt : k < n
      · obtain ⟨b, o, rfl, hblt, hcell⟩ := H5.out (by omega)
        obtain ⟨a', n', c', g1, g2, g3, g4, _⟩ := hcell k hlt
        have HS : Hid _ := items_step H1.out hlt g2 HT.out
        unfold maxLen at g4
        clear hcell g2
        go_wp2
        · go_ret
          exact ⟨⟨2097152, rfl, by omega, by omega, fun x => absurd x (by omega)⟩, rfl⟩
        · go_ret
          exact ⟨⟨_, rfl, by omega, by omega, fun x => absurd x (by omega)⟩, rfl⟩
        · go_round
          case rel => exact ⟨k + 1, T + n', by omega, by go_num, rfl, by omega, by omega, HS.out⟩
          case measure => simp [intOf]; omega
      · obtain rfl : k = n := by omega
        go_wp2
        go_ret
        exact ⟨⟨T, rfl, by omega, by omega, fun x => items_done H1.out HT.out x⟩, rfl⟩
  · go_enter Try.func9, Try.ntmps9
    go_wp2
    go_ret
    exact ⟨⟨2097152, rfl, by omega, by omega, fun x => absurd x (by omega)⟩, rfl⟩

set_option maxHeartbeats 400000 in
theorem bytes8_any (a : Option Addr) (n c : Nat) (L : List (List UInt8)) (w : World) (h : RowsAt w a n c L) :
    Calls Try.prog 8 #[.slice a n c] w fun e w' => SomeBool e ∧ w' = w := by
  obtain ⟨h1, h2, h3, h4, h5⟩ := h
  unfold maxLen at h3
  have H5 : Hid _ := h5
  clear h4 h5 h1
  by_cases hn : n ≤ 1048576
  · go_enter Try.func8, Try.ntmps8
    go_wp2
    go_loop [3, 4] (fun t i => ∃ (k : Nat) (T : Int), k ≤ n ∧ i = .int .i64 k ∧ t = .int .i64 T ∧ 0 ≤ T ∧ T ≤ 1048576) (fun _ i => n - (intOf i).toNat)
    case atStart => exact ⟨0, n, Nat.zero_le _, rfl, rfl, by omega, by omega⟩
    case round =>
      obtain ⟨k, T, hk, rfl, rfl, hT0, hT1⟩ := hrel
      by_cases hlt : k < n
      · obtain ⟨b, o, rfl, hblt, hcell⟩ := H5.out (by omega)
        obtain ⟨a', n', c', g1, g2, g3, g4, _⟩ := hcell k hlt
        unfold maxLen at g4
        clear hcell g2
        go_wp2
        · go_ret
          exact ⟨⟨_, rfl⟩, rfl⟩
        · go_ret
          exact ⟨⟨_, rfl⟩, rfl⟩
        · go_round
          case rel => exact ⟨k + 1, T + n', by omega, by go_num, rfl, by omega, by omega⟩
          case measure => simp [intOf]; omega
      · obtain rfl : k = n := by omega
        go_wp2
        go_ret
        exact ⟨⟨_, rfl⟩, rfl⟩
  · go_enter Try.func8, Try.ntmps8
    go_wp2
    go_ret
    exact ⟨⟨_, rfl⟩, rfl⟩

set_option maxHeartbeats 800000 in
theorem bytes14_any (a : Option Addr) (n c : Nat) (L : List (List UInt8)) (a2 : Option Addr) (n2 c2 : Nat) (L2 : List (List UInt8)) (w : World) (h : RowsAt w a n c L) (k : RowsAt w a2 n2 c2 L2) :
    Calls Try.prog 14 #[.slice a n c, .slice a2 n2 c2] w fun e w' => SomeBool e ∧ w' = w := by
  obtain ⟨h1, h2, h3, h4, h5⟩ := h
  obtain ⟨k1, k2, k3, k4, k5⟩ := k
  unfold maxLen at h3 k3
  have H5 : Hid _ := h5
  have K5 : Hid _ := k5
  clear h4 h5 h1 k4 k5 k1
  by_cases hn : n ≤ 1048576
  · go_enter Try.func14, Try.ntmps14
    go_wp2
    go_loop [5, 6] (fun t i => ∃ (k : Nat) (T : Int), k ≤ n ∧ i = .int .i64 k ∧ t = .int .i64 T ∧ 0 ≤ T ∧ T ≤ 1048576) (fun _ i => n - (intOf i).toNat)
    case atStart => exact ⟨0, n, Nat.zero_le _, rfl, rfl, by omega, by omega⟩
    case round =>
      obtain ⟨k, T, hk, rfl, rfl, hT0, hT1⟩ := hrel
      by_cases hlt : k < n
      · obtain ⟨b, o, rfl, hblt, hcell⟩ := H5.out (by omega)
        obtain ⟨a', n', c', g1, g2, g3, g4, _⟩ := hcell k hlt
        unfold maxLen at g4
        clear hcell g2
        go_wp2
        · go_ret
          exact ⟨⟨_, rfl⟩, rfl⟩
        · go_ret
          exact ⟨⟨_, rfl⟩, rfl⟩
        · go_round
          case rel => exact ⟨k + 1, T + n', by omega, by go_num, rfl, by omega, by omega⟩
          case measure => simp [intOf]; omega
      · obtain rfl : k = n := by omega
        by_cases hs : T + n2 ≤ 1048576
        · go_wp2
          go_loop [5, 7] (fun t i => ∃ (j : Nat) (T : Int), j ≤ n2 ∧ i = .int .i64 j ∧ t = .int .i64 T ∧ 0 ≤ T ∧ T ≤ 1048576) (fun _ i => n2 - (intOf i).toNat)
          case atStart => exact ⟨0, T + n2, Nat.zero_le _, rfl, rfl, by omega, by omega⟩
          case round =>
            obtain ⟨j, U, hj, rfl, rfl, hU0, hU1⟩ := hrel
            by_cases hlt2 : j < n2
            · obtain ⟨b, o, rfl, hblt, hcell⟩ := K5.out (by omega)
              obtain ⟨a', n', c', g1, g2, g3, g4, _⟩ := hcell j hlt2
              unfold maxLen at g4
              clear hcell g2
              go_wp2
              · go_ret
                exact ⟨⟨_, rfl⟩, rfl⟩
              · go_ret
                exact ⟨⟨_, rfl⟩, rfl⟩
              · go_round
                case rel => exact ⟨j + 1, U + n', by omega, by go_num, rfl, by omega, by omega⟩
                case measure => simp [intOf]; omega
            · obtain rfl : j = n2 := by omega
              go_wp2
              go_ret
              exact ⟨⟨_, rfl⟩, rfl⟩
        · go_wp2
          all_goals (go_ret; exact ⟨⟨_, rfl⟩, rfl⟩)
  · go_enter Try.func14, Try.ntmps14
    go_wp2
    go_ret
    exact ⟨⟨_, rfl⟩, rfl⟩
/-- What copyItems has laid after k rounds: block B is the new row; its first k cells lead to copies behind it. -/
def Made (B n k : Nat) (L : List (List UInt8)) (wr : World) : Prop :=
  ∃ V : Nat → Value, wr.rowIs B 26 n (fun j => if j < k then V j else .slice none 0 0) ∧
    ∀ j, j < k → ∃ a' n' c', V j = .slice a' n' c' ∧ BytesAt wr a' n' c' (L.getD j []) ∧ ∀ x, a' = some x → B < x.block

theorem made_zero (w : World) (n : Nat) (L : List (List UInt8)) : Made w.heap.size n 0 L (w.alloc (.cells (madeCells #[.slice none 0 0] n) 26)) :=
  ⟨fun _ => .slice none 0 0, (World.rowIs_made w (.slice none 0 0) n 26).congr fun i _ => by simp, fun j hj => absurd hj (Nat.not_lt_zero _)⟩

theorem made_later {B n k : Nat} {L : List (List UInt8)} {w w' : World} (h : Made B n k L w) (hb : Below w.heap.size w w') : Made B n k L w' := by
  obtain ⟨V, h1, h2⟩ := h
  refine ⟨V, h1.of_block (hb.block _ h1.lt), fun j hj => ?_⟩
  obtain ⟨a', n', c', h3, h4, h5⟩ := h2 j hj
  exact ⟨a', n', c', h3, h4.below hb, h5⟩

theorem made_cell {B n k : Nat} {L : List (List UInt8)} {w : World} (h : Made B n k L w) {j : Nat} (hj : j < n) : ∃ v, w.cell? ⟨B, j, none⟩ = some v := by
  obtain ⟨V, h1, h2⟩ := h
  exact ⟨_, h1.cell hj⟩
theorem made_frozen {B n k : Nat} {L : List (List UInt8)} {w : World} (h : Made B n k L w) (j : Nat) : w.frozen? ⟨B, j, none⟩ = false := by
  obtain ⟨V, h1, h2⟩ := h
  exact h1.frozen j
theorem made_step {B n k : Nat} {L : List (List UInt8)} {w : World} {a' : Option Addr} {n' c' : Nat} (h : Made B n k L w) (hy : BytesAt w a' n' c' (L.getD k [])) (hx : ∀ x, a' = some x → B < x.block) :
    Made B n (k + 1) L (w.setCell ⟨B, k, none⟩ (.slice a' n' c')) := by
  obtain ⟨V, h1, h2⟩ := h
  refine ⟨fun j => if j = k then .slice a' n' c' else V j, (h1.set k _).congr fun i hi => ?_, fun j hj => ?_⟩
  · by_cases e : i = k
    · subst e; simp
    · simp only [if_neg e]
      by_cases e2 : i < k
      · rw [if_pos e2, if_pos (by omega)]
      · rw [if_neg e2, if_neg (by omega)]
  · by_cases e : j = k
    · subst e
      exact ⟨a', n', c', by simp, hy.setCell (fun x hx' => by have := hx x hx'; exact Nat.ne_of_gt this) _, hx⟩
    · obtain ⟨a2, n2, c2, h3, h4, h5⟩ := h2 j (by omega)
      exact ⟨a2, n2, c2, by simp [e, h3], h4.setCell (fun x hx' => by have := h5 x hx'; exact Nat.ne_of_gt this) _, h5⟩

theorem made_done {B n : Nat} {L : List (List UInt8)} {w : World} (h : Made B n n L w) (hL : L.length = n) (hm : n ≤ maxLen) : RowsAt w (some ⟨B, 0, none⟩) n n L := by
  obtain ⟨V, h1, h2⟩ := h
  refine ⟨hL, Nat.le_refl _, hm, fun e => by simp at e, fun _ => ⟨B, 0, rfl, h1.lt, fun i hi => ?_⟩⟩
  obtain ⟨a', n', c', h3, h4, _⟩ := h2 i hi
  refine ⟨a', n', c', ?_, h4⟩
  have := h1.cell hi
  rw [Nat.zero_add, this]
  simp [hi, h3]

set_option maxHeartbeats 400000 in
theorem copyItems_any (a : Option Addr) (n c : Nat) (L : List (List UInt8)) (w : World) (h : RowsAt w a n c L) (ht : tot L ≤ 1048576) :
    Calls Try.prog 10 #[.slice a n c] w fun e w' => ∃ a' c', e = .returned (.slice a' n c') ∧ RowsAt w' a' n c' L ∧ Below w.heap.size w w' := by
  have hrows := h
  obtain ⟨h1, h2, h3, h4, h5⟩ := h
  have hn : n ≤ 1048576 := by have := len_le_tot L; omega
  have q22 : ∀ (w : World) (a : Option Addr) (n c n' c' : Nat), (binOp .eql 22 (.slice a n c) (.slice none n' c')).run Try.prog w = .ok (.bool a.isNone) w := fun w a n c n' c' => Lib.run_eql_slice_nil w _ _ a n c n' c' Try.underlying22
  cases a with
  | none =>
    obtain ⟨rfl, rfl⟩ := h4 rfl
    have H1 : Hid (RowsAt w none 0 0 L) := hrows
    clear h5 h1 h4 hrows ht
    go_enter Try.func10, Try.ntmps10
    go_wp2
    go_ret
    exact ⟨none, 0, rfl, H1.out, Below.refl _ _⟩
  | some x =>
    have hm := run_make_row' (P := Try.prog) 22 26 (.slice none 0 0) 24 Try.underlying22 info26 rfl .i64 .i64 n (by omega) (by omega)
    have H1 : Hid (L.length = n) := h1
    have HR : Hid (RowsAt w (some x) n c L) := hrows
    have HT : Hid (tot L ≤ 1048576) := ht
    clear h4 h5 h1 hrows ht
    go_enter Try.func10, Try.ntmps10
    go_wp2
    clear hm
    go_loopw [4] (fun i wr => ∃ k : Nat, k ≤ n ∧ i = .int .i64 k ∧ Hid (Made w.heap.size n k L wr) ∧ Hid (Below w.heap.size w wr) ∧ w.heap.size < wr.heap.size) (fun i _ => n - (intOf i).toNat)
    case atStart => exact ⟨0, Nat.zero_le _, rfl, made_zero w n L, (Below.refl _ _).alloc (Nat.le_refl _) _, by simp⟩
    case round =>
      obtain ⟨k, hk, rfl, HM, HB, hsz⟩ := hrel
      by_cases hlt : k < n
      · obtain ⟨_, _, _, _, r5⟩ := HR.out.below HB.out
        obtain ⟨b, o, e, hblt, hcell⟩ := r5 (by omega)
        obtain rfl : x = ⟨b, o, none⟩ := Option.some.inj e
        obtain ⟨a', n', c', g1, hy⟩ := hcell k hlt
        have hn' : n' ≤ 1048576 := by have := tot_get L k; have := HT.out; have := hy.1; omega
        have HY : Hid (BytesAt wr a' n' c' (L.getD k [])) := hy
        clear hcell e r5 hy
        go_wp2_with fail
        refine (copyBytes_any _ _ _ _ _ HY.out hn').mono ?_
        rintro e w1 ⟨a2, c2, rfl, hy2, hfr, hb2⟩
        have HM1 := made_later HM.out hb2
        obtain ⟨v0, g2⟩ := made_cell HM1 hlt
        have g3 := made_frozen HM1 k
        have HN : Hid _ := made_step HM1 hy2 (fun x hx => Nat.lt_of_lt_of_le hsz (hfr x hx))
        have HB1 : Hid _ := (HB.out.trans (hb2.mono HB.out.size)).setCell (p := ⟨w.heap.size, k, none⟩) (Nat.le_refl _) (.slice a2 n' c2)
        have hsz1 : w.heap.size < w1.heap.size := Nat.lt_of_lt_of_le hsz hb2.size
        clear hy2 hfr hb2 HM1 g1 hblt
        go_wp2
        go_roundw
        case rel => exact ⟨k + 1, by omega, by go_num, HN.out, HB1.out, by simpa [World.setCell] using hsz1⟩
        case measure => simp [intOf]; omega
      · obtain rfl : k = n := by omega
        go_wp2
        go_ret
        exact ⟨_, _, rfl, made_done HM.out H1.out (by unfold maxLen; omega), HB.out⟩
end Go.Proofs.Qxb6600206a.It
