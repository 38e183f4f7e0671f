/-
  Seat b6001440a: the walk of zsplitB1 (17).
-/
import Derived.Test.Qxb6001440aRows
import Derived.Test.Qxb6001440aPlain
import Derived.WalkKit
import Derived.WalkLawsBesides
import Derived.Deep.OwnRows
import Derived.Deep.QuietTactic
import Derived.BigQuiet
namespace Go.Proofs.Qxb6001440a.Sp
open Go.RowKit Go.Proofs.Qxb6001440a.Pl
set_option linter.unusedVariables false

theorem info9 : (Try.prog.info? 9).map (fun i => (i.zero, i.size, i.bytes)) = some (some (.string ByteArray.empty), 1, 16) := by kernel_rfl
theorem below_trans {a b c : World} (h : Below a.heap.size a b) (k : Below b.heap.size b c) : Below a.heap.size a c := h.trans (k.mono h.size)

/-- A slice of strings that holds L. -/
def StrsAt (w : World) (a : Option Addr) (n c : Nat) (L : List ByteArray) : Prop :=
  L.length = n ∧ n ≤ c ∧ c ≤ maxLen ∧ (0 < n → ∃ b o, a = some ⟨b, o, none⟩ ∧ b < w.heap.size ∧ ∀ i, i < n → w.cell? ⟨b, o + i, none⟩ = some (.string (L.getD i ByteArray.empty)))

/-- A slice of strings that the call itself is building. -/
def LstAt (B : Nat) (w : World) (v : Value) (L : List ByteArray) : Prop := w.ownsRow B 9 1 v L.length (L.map Value.string)
theorem LstAt.nil (B : Nat) (w : World) : LstAt B w (.slice none 0 0) [] := World.ownsRow_nil _ _ _ _
theorem LstAt.alloc {B : Nat} {w : World} {v : Value} {L : List ByteArray} (h : LstAt B w v L) (o : Obj) : LstAt B (w.alloc o) v L := World.ownsRow.alloc h o
theorem LstAt.strs {B : Nat} {w : World} {v : Value} {L : List ByteArray} (h : LstAt B w v L) : ∃ a c, v = .slice a L.length c ∧ StrsAt w a L.length c L ∧ ∀ x, a = some x → B ≤ x.block := by
  obtain ⟨h1, h2⟩ := h
  rcases h2 with ⟨rfl, h0⟩ | ⟨g, cap, cur, rfl, hg, hh, h3, h4, h5, h6⟩
  · exact ⟨none, 0, by rw [h0], ⟨rfl, by omega, by unfold maxLen; omega, fun x => absurd x (by omega)⟩, fun _ x => by simp at x⟩
  · refine ⟨_, cap, rfl, ⟨rfl, h3, h4, fun hn => ⟨g, 0, rfl, (Array.getElem?_eq_some_iff.1 hh).1, fun i hi => ?_⟩⟩, fun x hx => by obtain rfl := Option.some.inj hx; exact hg⟩
    have e : (L.map Value.string)[i]? = some (.string (L.getD i ByteArray.empty)) := by
      simp [List.getD, hi]
    rw [← h6, List.getElem?_take, if_pos (by omega)] at e
    rw [Nat.zero_add]
    simp only [World.cell?, hh]
    simpa using e

/-- 'out = append(out, x)', the one string laid in a new block of its own ahead of it. -/
theorem wpList_put {ops : Array Oper} {rest : List Oper} {o : Oper} {a : Act} {Q : Exit → Act → World → Prop} (wr : World) (hgd : o.guard = none) (s x : Operand)
    (ho : o.op = .call { callee := .builtin .append, args := #[s, x], argTypes := #[23, 23] }) (B : Nat) (v : Value) (L : List ByteArray) (y : ByteArray)
    (hs : a.eval s = v) (hx : a.eval x = .slice (some ⟨wr.heap.size, 0, none⟩) 1 1) (hown : LstAt B wr v L) (hlen : L.length ≤ 1073741824) (hB : B ≤ wr.heap.size)
    (h : ∀ v' w', LstAt B w' v' (L ++ [y]) → Below B wr w' → wpList Try.prog ops Q rest (a.put o.dst v') w') : wpList Try.prog ops Q (o :: rest) a (wr.alloc (.cells #[.string y] 9)) := by
  obtain ⟨i, hi, hz0, hz1, hz2⟩ := info_parts info9
  refine wpList_append_own _ hgd s x 23 ho B 9 i (.string ByteArray.empty) 1 16 Try.underlying23 hi hz0 hz1 hz2 rfl (by decide) v L.length (L.map Value.string) hs (hown.alloc _) ⟨wr.heap.size, 0, none⟩ 1 1 [.string y] hx rfl ?_ ?_ ?_ ?_ ?_ ?_
  · intro j u hj
    match j, hj with
    | 0, hj => simp at hj; subst hj; simp [Addr.add]
  · intro u hu; simp at hu; subst hu; rfl
  · unfold maxLen; omega
  · omega
  · simp; omega
  · intro v' w1 h1 h2 _
    refine h v' w1 ?_ ?_
    · unfold LstAt
      rw [List.map_append, List.length_append]
      exact h1
    · refine ((Below.refl B wr).alloc hB _).grown h2 (by simp; omega) ?_
      intro k hk
      obtain ⟨_, h5⟩ := hown
      rcases h5 with ⟨rfl, _⟩ | ⟨g, cap, cur, rfl, hg, _⟩
      · simp [Value.ownBlock] at hk
      · simp [Value.ownBlock] at hk; omega

theorem spl_hit {s : ByteArray} {k : Nat} {c : UInt8} (h : s.data.toList.getD k 0 = c) (hc : ((c.toNat : Int) == 47) = true) : spl s (k + 1) = (k + 1, (spl s k).2 ++ [s.extract (spl s k).1 k]) := by
  have : (s.data.toList.getD k 0).toNat = 47 := by rw [h]; have := eq_of_beq hc; omega
  simp only [spl]; rw [if_pos this]
theorem spl_miss {s : ByteArray} {k : Nat} {c : UInt8} (h : s.data.toList.getD k 0 = c) (hc : ((c.toNat : Int) == 47) = false) : spl s (k + 1) = spl s k := by
  have : ¬ (s.data.toList.getD k 0).toNat = 47 := by rw [h]; rw [beq_eq_false_iff_ne] at hc; omega
  simp only [spl]; rw [if_neg this]

set_option maxHeartbeats 1000000 in
theorem split_any (s : ByteArray) (w : World) (hs : s.size ≤ 65536) :
    Calls Try.prog 17 #[.string s] w fun e w' => (∃ a c, e = .returned (.slice a (segs s).length c) ∧ StrsAt w' a (segs s).length c (segs s) ∧ ∀ x, a = some x → w.heap.size ≤ x.block) ∧ Below w.heap.size w w' := by
  go_enter Try.func17, Try.ntmps17
  go_wp2
  go_loopw [3, 4, 5] (fun a b i wr => ∃ (k st : Nat) (L : List ByteArray), k ≤ s.size ∧ st ≤ k ∧ i = .int .i64 k ∧ b = .int .i64 st ∧ Hid (spl s k = (st, L)) ∧ Hid (LstAt w.heap.size wr a L) ∧ Hid (Below w.heap.size w wr)) (fun _ _ i _ => s.size - (intOf i).toNat)
  case atStart => exact ⟨0, 0, [], Nat.zero_le _, Nat.zero_le _, rfl, rfl, rfl, LstAt.nil _ _, Below.refl _ _⟩
  case round =>
    obtain ⟨k, st, L, hk, hst, rfl, rfl, HS, HL, HB⟩ := hrel
    have hlen : L.length ≤ 65536 := by have := spl_len s k; rw [HS.out] at this; simp only [] at this; omega
    have hsz := HB.out.size
    by_cases hlt : k < s.size
    · have HC : Hid (s.data.toList.getD k 0 = s[k]) := by
        show _ = _
        rw [List.getD_eq_getElem?_getD, List.getElem?_eq_getElem (by simpa using hlt), Option.getD_some]; rfl
      cases hc : ((s[k].toNat : Int) == 47) with
      | true =>
        have HN : Hid (spl s (k + 1) = (k + 1, L ++ [s.extract st k])) := by have := spl_hit HC.out hc; rw [HS.out] at this; exact this
        go_wp2_with (at_builtin; refine wpList_put _ rfl (.tmp 16) (.tmp 21) rfl w.heap.size _ L (s.extract st k) rfl rfl HL.out (by omega) hsz ?_; intro v1 w1 h1 b1)
        have HB2 : Hid _ := HB.out.trans b1
        go_roundw
        case rel => exact ⟨k + 1, k + 1, _, by omega, Nat.le_refl _, by go_num, by go_num, HN.out, h1, HB2.out⟩
        case measure => simp [intOf]; omega
      | false =>
        have HN : Hid (spl s (k + 1) = (st, L)) := (spl_miss HC.out hc).trans HS.out
        go_wp2
        go_roundw
        case rel => exact ⟨k + 1, st, L, by omega, by omega, by go_num, rfl, HN.out, HL.out, HB.out⟩
        case measure => simp [intOf]; omega
    · obtain rfl : k = s.size := by omega
      have HE : Hid (segs s = L ++ [s.extract st s.size]) := by show _ = _; unfold segs; rw [HS.out]
      go_wp2_with (at_builtin; refine wpList_put _ rfl (.tmp 25) (.tmp 29) rfl w.heap.size _ L (s.extract st s.size) rfl rfl HL.out (by omega) hsz ?_; intro v1 w1 h1 b1)
      rw [← HE.out] at h1
      obtain ⟨ra, rc, rfl, hr1, hr2⟩ := h1.strs
      have HB2 : Hid _ := HB.out.trans b1
      have HR : Hid (StrsAt w1 ra (segs s).length rc (segs s)) := hr1
      clear hr1 b1 h1
      go_ret
      exact ⟨⟨ra, rc, rfl, HR.out, hr2⟩, HB2.out⟩
end Go.Proofs.Qxb6001440a.Sp
