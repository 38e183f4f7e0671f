/-
  Seat b6600206a: byte slices in memory; the walk of copyBytes (15).
-/
import Derived.Test.Qxb6600206aName
import Derived.Lib.SliceRun
import Derived.Deep.OwnRows
namespace Go.Proofs.Qxb6600206a.By
open Go.RowKit Go.Proofs.Qxb6600206a.Pl Go.Proofs.Qxb6600206a.Nm
set_option linter.unusedVariables false

theorem info5 : (Try.prog.info? 5).map (fun i => (i.zero, i.size, i.bytes)) = some (some (.int .u8 0), 1, 1) := by kernel_rfl
theorem info26 : (Try.prog.info? 26).map (fun i => (i.zero, i.size, i.bytes)) = some (some (.slice none 0 0), 1, 24) := by kernel_rfl

/-- The i-th byte, as the walk's number. -/
def bv (l : List UInt8) (i : Nat) : Int := ((l.getD i 0).toNat : Int)
theorem bv_ge (l : List UInt8) (i : Nat) : 0 ≤ bv l i := by unfold bv; omega
theorem bv_le (l : List UInt8) (i : Nat) : bv l i ≤ 255 := by unfold bv; have := (l.getD i 0).toNat_lt; omega

/-- A slice of bytes that holds l. -/
def BytesAt (w : World) (a : Option Addr) (n c : Nat) (l : List UInt8) : Prop :=
  l.length = n ∧ n ≤ c ∧ c ≤ maxLen ∧ (a = none → n = 0 ∧ c = 0) ∧ (0 < n → ∃ b o, a = some ⟨b, o, none⟩ ∧ b < w.heap.size ∧ ∀ i, i < n → w.cell? ⟨b, o + i, none⟩ = some (.int .u8 (bv l i)))

theorem BytesAt.below {w w' : World} {a : Option Addr} {n c : Nat} {l : List UInt8} (h : BytesAt w a n c l) (hb : Below w.heap.size w w') : BytesAt w' a n c l := by
  obtain ⟨h1, h2, h3, h4, h5⟩ := h
  refine ⟨h1, h2, h3, h4, fun hn => ?_⟩
  obtain ⟨b, o, rfl, hlt, hc⟩ := h5 hn
  refine ⟨b, o, rfl, Nat.lt_of_lt_of_le hlt hb.size, fun i hi => ?_⟩
  rw [hb.cell (p := ⟨b, o + i, none⟩) hlt]
  exact hc i hi

theorem BytesAt.setCell {w : World} {a : Option Addr} {n c : Nat} {l : List UInt8} (h : BytesAt w a n c l) {p : Addr} (hne : ∀ x, a = some x → x.block ≠ p.block) (v : Value) : BytesAt (w.setCell p v) a n c l := by
  obtain ⟨h1, h2, h3, h4, h5⟩ := h
  refine ⟨h1, h2, h3, h4, fun hn => ?_⟩
  obtain ⟨b, o, rfl, hlt, hc⟩ := h5 hn
  refine ⟨b, o, rfl, by simpa [World.setCell] using hlt, fun i hi => ?_⟩
  have hk : b ≠ p.block := hne _ rfl
  exact (World.cell?_of_block (w := w) (a := ⟨b, o + i, none⟩) (Below.heap_setCell w p v b hk)).trans (hc i hi)

/-- A slice of such slices. -/
def RowsAt (w : World) (a : Option Addr) (n c : Nat) (L : List (List UInt8)) : Prop :=
  L.length = n ∧ n ≤ c ∧ c ≤ maxLen ∧ (a = none → n = 0 ∧ c = 0) ∧ (0 < n → ∃ b o, a = some ⟨b, o, none⟩ ∧ b < w.heap.size ∧ ∀ i, i < n → ∃ a' n' c', w.cell? ⟨b, o + i, none⟩ = some (.slice a' n' c') ∧ BytesAt w a' n' c' (L.getD i []))

theorem RowsAt.below {w w' : World} {a : Option Addr} {n c : Nat} {L : List (List UInt8)} (h : RowsAt w a n c L) (hb : Below w.heap.size w w') : RowsAt w' a n c L := by
  obtain ⟨h1, h2, h3, h4, h5⟩ := h
  refine ⟨h1, h2, h3, h4, fun hn => ?_⟩
  obtain ⟨b, o, rfl, hlt, hc⟩ := h5 hn
  refine ⟨b, o, rfl, Nat.lt_of_lt_of_le hlt hb.size, fun i hi => ?_⟩
  obtain ⟨a', n', c', h6, h7⟩ := hc i hi
  refine ⟨a', n', c', ?_, h7.below hb⟩
  rw [hb.cell (p := ⟨b, o + i, none⟩) hlt]
  exact h6

theorem below_trans {a b c : World} (h : Below a.heap.size a b) (k : Below b.heap.size b c) : Below a.heap.size a c := h.trans (k.mono h.size)

/-- What copyBytes has laid after k rounds. -/
def part (l : List UInt8) (k : Nat) (j : Nat) : Value := if j < k then .int .u8 (bv l j) else .int .u8 0
theorem part_step {w : World} {b n k : Nat} {l : List UInt8} (h : w.rowIs b 5 n (part l k)) : (w.setCell ⟨b, k, none⟩ (.int .u8 (bv l k))).rowIs b 5 n (part l (k + 1)) := by
  refine (h.set k _).congr fun i hi => ?_
  unfold part
  by_cases e : i = k
  · subst e; simp
  · rw [if_neg e]
    by_cases e2 : i < k
    · rw [if_pos e2, if_pos (by omega)]
    · rw [if_neg e2, if_neg (by omega)]
theorem part_zero (l : List UInt8) (w : World) (n : Nat) : (w.alloc (.cells (madeCells #[.int .u8 0] n) 5)).rowIs w.heap.size 5 n (part l 0) :=
  (World.rowIs_made w (.int .u8 0) n 5).congr fun i _ => by simp [part]
theorem part_done {w : World} {b n : Nat} {l : List UInt8} (hl : l.length = n) (hm : n ≤ maxLen) (h : w.rowIs b 5 n (part l n)) : BytesAt w (some ⟨b, 0, none⟩) n n l :=
  ⟨hl, Nat.le_refl _, hm, fun e => by simp at e, fun _ => ⟨b, 0, rfl, h.lt, fun i hi => by have := h.cell hi; rw [Nat.zero_add, this]; simp [part, hi]⟩⟩

set_option maxHeartbeats 400000 in
theorem copyBytes_any (a : Option Addr) (n c : Nat) (l : List UInt8) (w : World) (h : BytesAt w a n c l) (hn : n ≤ 1048576) :
    Calls Try.prog 15 #[.slice a n c] w fun e w' => ∃ a' c', e = .returned (.slice a' n c') ∧ BytesAt w' a' n c' l ∧ (∀ x, a' = some x → w.heap.size ≤ x.block) ∧ Below w.heap.size w w' := by
  obtain ⟨h1, h2, h3, h4, h5⟩ := h
  have q26 : ∀ (w : World) (a : Option Addr) (n c n' c' : Nat), (binOp .eql 26 (.slice a n c) (.slice none n' c')).run Try.prog w = .ok (.bool a.isNone) w := fun w a n c n' c' => Lib.run_eql_slice_nil w _ _ a n c n' c' Try.underlying26
  cases a with
  | none =>
    obtain ⟨rfl, rfl⟩ := h4 rfl
    have H1 : Hid (l.length = 0) := h1
    clear h5 h1 h4
    go_enter Try.func15, Try.ntmps15
    go_wp2
    go_ret
    exact ⟨none, 0, rfl, ⟨H1.out, Nat.le_refl _, by unfold maxLen; omega, fun _ => ⟨rfl, rfl⟩, fun x => absurd x (Nat.lt_irrefl _)⟩, fun _ x => by simp at x, Below.refl _ _⟩
  | some x =>
    have hm := run_make_row' (P := Try.prog) 26 5 (.int .u8 0) 1 Try.underlying26 info5 rfl .i64 .i64 n (by omega) (by omega)
    have H1 : Hid (l.length = n) := h1
    have H5 : Hid _ := h5
    clear h4 h5 h1
    go_enter Try.func15, Try.ntmps15
    go_wp2
    clear hm
    go_loopw [4] (fun i wr => ∃ k : Nat, k ≤ n ∧ i = .int .i64 k ∧ wr.rowIs w.heap.size 5 n (part l k) ∧ Below w.heap.size w wr) (fun i _ => n - (intOf i).toNat)
    case atStart => exact ⟨0, Nat.zero_le _, rfl, part_zero l w n, (Below.refl _ _).alloc (Nat.le_refl _) _⟩
    case round =>
      obtain ⟨k, hk, rfl, hrow, hbel⟩ := hrel
      by_cases hlt : k < n
      · obtain ⟨b, o, e, hblt, hcell⟩ := H5.out (by omega)
        obtain rfl : x = ⟨b, o, none⟩ := Option.some.inj e
        have g1 : wr.cell? ⟨b, o + k, none⟩ = some (.int .u8 (bv l k)) := (hbel.cell (p := ⟨b, o + k, none⟩) hblt).trans (hcell k hlt)
        have g2 := hrow.cell hlt
        have g3 := hrow.frozen k
        have R := part_step (l := l) hrow
        have B1 := hbel.setCell (p := ⟨w.heap.size, k, none⟩) (Nat.le_refl _) (.int .u8 (bv l k))
        have HR : Hid _ := R
        have HB : Hid _ := B1
        clear hcell e hrow hbel R B1
        go_wp2
        go_roundw
        case rel => exact ⟨k + 1, by omega, by go_num, HR.out, HB.out⟩
        case measure => simp [intOf]; omega
      · obtain rfl : k = n := by omega
        go_wp2
        go_ret
        exact ⟨_, _, rfl, part_done H1.out (by unfold maxLen; omega) hrow, fun x hx => by obtain rfl := Option.some.inj hx; exact Nat.le_refl _, hbel⟩
end Go.Proofs.Qxb6600206a.By
