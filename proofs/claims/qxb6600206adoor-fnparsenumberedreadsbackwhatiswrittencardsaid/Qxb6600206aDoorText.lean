/-
  Seat b6600206aD: byte slices in memory, and texts that the call itself builds by append.
-/
import Derived.Test.Qxb6600206aDoorParse
import Derived.Deep.OwnRows
namespace Go.Proofs.Qxb6600206aDoor.Tx
open Go.RowKit Go.Proofs.Qxb6600206aDoor.Pl Go.Proofs.Qxb6600206aDoor.Ps
set_option linter.unusedVariables false

theorem info5 : (Tryd.prog.info? 5).map (fun i => (i.zero, i.size, i.bytes)) = some (some (.int .u8 0), 1, 1) := by kernel_rfl

/-- The i-th byte, as the walk's number. -/
def bv (l : List UInt8) (i : Nat) : Int := ((l.getD i 0).toNat : Int)
theorem bv_ge (l : List UInt8) (i : Nat) : 0 ≤ bv l i := by unfold bv; omega
theorem bv_le (l : List UInt8) (i : Nat) : bv l i ≤ 255 := by unfold bv; have := (l.getD i 0).toNat_lt; omega

/-- A slice of bytes that holds l. -/
def BytesAt (w : World) (a : Option Addr) (n c : Nat) (l : List UInt8) : Prop :=
  l.length = n ∧ n ≤ c ∧ c ≤ maxLen ∧ (a = none → n = 0 ∧ c = 0) ∧ (0 < n → ∃ b o, a = some ⟨b, o, none⟩ ∧ b < w.heap.size ∧ ∀ i, i < n → w.cell? ⟨b, o + i, none⟩ = some (.int .u8 (bv l i)))

theorem BytesAt.below {w w' : World} {a : Option Addr} {n c : Nat} {l : List UInt8} (h : BytesAt w a n c l) (hb : Below w.heap.size w w') : BytesAt w' a n c l := by
  obtain ⟨h1, h2, h3, h4, h5⟩ := h
  refine ⟨h1, h2, h3, h4, fun hn => ?_⟩
  obtain ⟨b, o, rfl, hlt, hc⟩ := h5 hn
  refine ⟨b, o, rfl, Nat.lt_of_lt_of_le hlt hb.size, fun i hi => ?_⟩
  rw [hb.cell (p := ⟨b, o + i, none⟩) hlt]
  exact hc i hi
theorem row_at {w wr : World} {a : Option Addr} {n c : Nat} {l : List UInt8} (h : BytesAt w a n c l) (hb : Below w.heap.size w wr) {j : Nat} (hj : j < n) : ∃ b o, a = some ⟨b, o, none⟩ ∧ wr.cell? ⟨b, o + j, none⟩ = some (.int .u8 (bv l j)) := by
  obtain ⟨_, _, _, _, h5⟩ := h.below hb
  obtain ⟨b, o, e, _, hc⟩ := h5 (by omega)
  exact ⟨b, o, e, hc j hj⟩

def cellsOf (l : List UInt8) : List Value := l.map fun c => .int .u8 (c.toNat : Int)
theorem cellsOf_snoc (l : List UInt8) (c : UInt8) : cellsOf (l ++ [c]) = cellsOf l ++ [.int .u8 (c.toNat : Int)] := by simp [cellsOf]

/-- A text that the call itself is building. -/
def TxtAt (B : Nat) (w : World) (v : Value) (l : List UInt8) : Prop := w.ownsRow B 5 1 v l.length (cellsOf l)
theorem TxtAt.alloc {B : Nat} {w : World} {v : Value} {l : List UInt8} (h : TxtAt B w v l) (o : Obj) : TxtAt B (w.alloc o) v l := World.ownsRow.alloc h o
theorem TxtAt.bytes {B : Nat} {w : World} {v : Value} {l : List UInt8} (h : TxtAt B w v l) : ∃ a c, v = .slice a l.length c ∧ BytesAt w a l.length c l := by
  obtain ⟨h1, h2⟩ := h
  rcases h2 with ⟨rfl, h0⟩ | ⟨g, cap, cur, rfl, hg, hh, h3, h4, h5, h6⟩
  · refine ⟨none, 0, by rw [h0], rfl, by omega, by unfold maxLen; omega, fun _ => ⟨h0, rfl⟩, fun x => absurd x (by omega)⟩
  · refine ⟨_, cap, rfl, rfl, h3, h4, fun e => by simp at e, fun hn => ⟨g, 0, rfl, (Array.getElem?_eq_some_iff.1 hh).1, fun i hi => ?_⟩⟩
    have e : (cellsOf l)[i]? = some (.int .u8 (bv l i)) := by
      simp [cellsOf, bv, List.getD, hi]
    rw [← h6, List.getElem?_take, if_pos (by omega)] at e
    rw [Nat.zero_add]
    simp only [World.cell?, hh]
    simpa using e

/-- 'text = append(text, c)', the one byte laid in a new block of its own ahead of it. -/
theorem wpList_put {ops : Array Oper} {rest : List Oper} {o : Oper} {a : Act} {Q : Exit → Act → World → Prop} (wr : World) (hgd : o.guard = none) (s x : Operand)
    (ho : o.op = .call { callee := .builtin .append, args := #[s, x], argTypes := #[27, 27] }) (B : Nat) (v : Value) (l : List UInt8) (c : UInt8) (z : Int) (hz : z = (c.toNat : Int))
    (hs : a.eval s = v) (hx : a.eval x = .slice (some ⟨wr.heap.size, 0, none⟩) 1 1) (hown : TxtAt B wr v l) (hlen : l.length ≤ 1073741824) (hB : B ≤ wr.heap.size)
    (h : ∀ v' w', TxtAt B w' v' (l ++ [c]) → Below B wr w' → wpList Tryd.prog ops Q rest (a.put o.dst v') w') : wpList Tryd.prog ops Q (o :: rest) a (wr.alloc (.cells #[.int .u8 z] 5)) := by
  subst hz
  obtain ⟨i, hi, hz0, hz1, hz2⟩ := info_parts info5
  refine wpList_append_own _ hgd s x 27 ho B 5 i (.int .u8 0) 1 1 Tryd.underlying27 hi hz0 hz1 hz2 rfl (by decide) v l.length (cellsOf l) hs (hown.alloc _) ⟨wr.heap.size, 0, none⟩ 1 1 [.int .u8 (c.toNat : Int)] hx rfl ?_ ?_ ?_ ?_ ?_ ?_
  · intro j u hj
    match j, hj with
    | 0, hj => simp at hj; subst hj; simp [Addr.add]
  · intro u hu; simp at hu; subst hu; rfl
  · unfold maxLen; omega
  · omega
  · simp; omega
  · intro v' w1 h1 h2 _
    refine h v' w1 ?_ ?_
    · unfold TxtAt
      rw [cellsOf_snoc, List.length_append]
      exact h1
    · refine ((Below.refl B wr).alloc hB _).grown h2 (by simp; omega) ?_
      intro k hk
      obtain ⟨_, h5⟩ := hown
      rcases h5 with ⟨rfl, _⟩ | ⟨g, cap, cur, rfl, hg, _⟩
      · simp [Value.ownBlock] at hk
      · simp [Value.ownBlock] at hk; omega

/-! ### Plain: digits written and read back -/
theorem fold_zero (z : Nat) : (List.replicate z (48 : UInt8)).foldl dstep (some 0) = some 0 := by
  induction z with
  | zero => rfl
  | succ z ih => rw [List.replicate_succ, List.foldl_cons]; exact ih
theorem numF_zeros (z : Nat) (d : List UInt8) : numF (List.replicate z 48 ++ d) = numF d := by
  unfold numF; rw [List.foldl_append, fold_zero]
theorem hasPrefix_self (P X : List UInt8) : Lib.hasPrefix (P ++ X) P = true := by
  unfold Lib.hasPrefix; rw [List.isPrefixOf_iff_prefix]; exact List.prefix_append P X
theorem numbered_app (P X : List UInt8) (h : X ≠ []) : numbered (P ++ X) P = numF X := by
  unfold numbered
  rw [if_pos (hasPrefix_self P X), List.drop_left]
  unfold num16
  rw [if_neg h]
theorem back_text {P d : List UInt8} {z v : Nat} (hd : d ≠ []) (h : numF d = some v) : numbered (P ++ (List.replicate z 48 ++ d)) P = some v := by
  rw [numbered_app _ _ (by simp [hd]), numF_zeros, h]
theorem back_x {P d : List UInt8} {z v : Nat} (h : numF d = some v) : numbered (P ++ (List.replicate z 48 ++ d) ++ [120]) P = none := by
  rw [List.append_assoc, numbered_app _ _ (by simp), numF_snoc, numF_zeros, h]
  rfl
theorem back_7 {P d : List UInt8} {z v : Nat} (h : numF d = some v) : numbered (P ++ (List.replicate z 48 ++ d) ++ [55]) P = if v * 10 + 7 ≤ 65535 then some (v * 10 + 7) else none := by
  rw [List.append_assoc, numbered_app _ _ (by simp), numF_snoc, numF_zeros, h]
  have e : (55 : UInt8).toNat = 55 := rfl
  simp only [dstep, e]
  by_cases hv : v * 10 + 7 ≤ 65535
  · rw [if_pos hv, if_pos (by omega)]
  · rw [if_neg hv, if_neg (by omega)]
/-- One digit more ahead: the last digit of v. -/
theorem digit_step {d : List UInt8} {v v0 : Nat} (hv : v ≤ 65535) (h : d.foldl dstep (some v) = some v0) : (UInt8.ofNat (48 + v % 10) :: d).foldl dstep (some (v / 10)) = some v0 := by
  rw [List.foldl_cons]
  have e : (UInt8.ofNat (48 + v % 10)).toNat = 48 + v % 10 := by rw [UInt8.toNat_ofNat']; omega
  have e2 : dstep (some (v / 10)) (UInt8.ofNat (48 + v % 10)) = some v := by
    simp only [dstep, e]
    rw [if_pos (by omega)]
    exact congrArg some (by omega)
  rw [e2]; exact h
end Go.Proofs.Qxb6600206aDoor.Tx
