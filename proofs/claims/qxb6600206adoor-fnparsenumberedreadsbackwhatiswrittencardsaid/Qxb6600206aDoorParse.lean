/-
  Seat b6600206aD: the walks of parseNumbered (10) and ZZParseNumbered (6), over the shelf's contracts of strings.CutPrefix and strconv.ParseUint.
-/
import Derived.Test.Qxb6600206aDoorRows
import Derived.Test.Qxb6600206aDoorShelf
import Derived.Test.Qxb6600206aDoorPlain
import Derived.Lib.ParseUintOr
import Derived.Lib.AtoiErrMem
import Derived.WalkKit
import Derived.BigCall
import Derived.Deep.QuietTactic
import Derived.BigQuiet
namespace Go.Proofs.Qxb6600206aDoor.Ps
open Go.RowKit Go.Shelf Go.Proofs.Qxb6600206aDoor.Pl
set_option linter.unusedVariables false

theorem gES : Tryd.prog.globalNamed "strconv.ErrSyntax" = some 0 := by kernel_rfl
theorem gER : Tryd.prog.globalNamed "strconv.ErrRange" = some 1 := by kernel_rfl
/-- The two variables of the library's that the error's road reads each hold an interface value that is not nil. -/
def Errs (w : World) : Prop := (∃ t p, w.var? Tryd.prog "strconv.ErrSyntax" = some #[.iface t p]) ∧ (∃ t p, w.var? Tryd.prog "strconv.ErrRange" = some #[.iface t p])
theorem var_below {w w' : World} {n : String} {g : Nat} {x : Array Value} (hg : Tryd.prog.globalNamed n = some g) (hb : Below w.heap.size w w') (h : w.var? Tryd.prog n = some x) : w'.var? Tryd.prog n = some x := by
  simp only [World.var?, hg, Option.bind_some] at h ⊢
  have hlt : g < w.heap.size := by
    apply Nat.lt_of_not_le
    intro hle
    rw [Array.getElem?_eq_none hle] at h
    simp at h
  rw [hb.block g hlt]
  exact h
theorem Errs.below {w w' : World} (h : Errs w) (hb : Below w.heap.size w w') : Errs w' := by
  obtain ⟨⟨t, p, h0⟩, ⟨t', p', h1⟩⟩ := h
  exact ⟨⟨t, p, var_below gES hb h0⟩, ⟨t', p', var_below gER hb h1⟩⟩
theorem below_trans {a b c : World} (h : Below a.heap.size a b) (k : Below b.heap.size b c) : Below a.heap.size a c := h.trans (k.mono h.size)

/-- What strconv.ParseUint(s, 10, 16) hands back. -/
def Got (o : Option Nat) (e : Ending) : Prop :=
  match o with
  | some u => e = .returned (.tuple #[.int .u64 (u : Int), .nilIface])
  | none => ∃ n t p, e = .returned (.tuple #[.int .u64 n, .iface t p])

theorem parse16 (s : ByteArray) (w : World) (hlim : s.size ≤ 281474976710656) (hE : Errs w) :
    Calls Tryd.prog 12 #[.string s, .int .i64 10, .int .i64 16] w fun e w' => Got (num16 s.data.toList) e ∧ Below w.heap.size w w' := by
  obtain ⟨⟨t0, p0, h0⟩, ⟨t1, p1, h1⟩⟩ := hE
  rcases h : Lib.parseUintB 16 s.data.toList with u | _ | _
  · rw [num16_ok h]
    refine (Any.strconv_ParseUint_10_at16_ok Tryd.laysPu14 s (by omega) u h w).mono ?_
    rintro e w' ⟨rfl, hw⟩
    refine ⟨rfl, ?_⟩
    rcases hw with rfl | rfl
    · exact Below.refl _ _
    · exact Lib.bytesWorld_below _ _ _
  · rw [num16_no (fun u hu => by rw [h] at hu; simp at hu)]
    refine (Any.strconv_ParseUint_10_at16_syntax_var Tryd.laysPu14 s hlim h _ _ w h0).mono ?_
    rintro e w' ⟨N, rfl, -, -, hb⟩
    exact ⟨⟨_, _, _, rfl⟩, hb⟩
  · rw [num16_no (fun u hu => by rw [h] at hu; simp at hu)]
    refine (Any.strconv_ParseUint_10_at16_range_var Tryd.laysPu14 s hlim h _ _ w h1).mono ?_
    rintro e w' ⟨N, rfl, -, -, hb⟩
    exact ⟨⟨_, _, _, rfl⟩, hb⟩
/-! ### parseNumbered -/
def valI (o : Option Nat) : Int := match o with | some u => (u : Int) | none => 0
def okB (o : Option Nat) : Bool := match o with | some _ => true | none => false
theorem tup {a a' : Int} {b b' : Bool} (h : a = a') (k : b = b') : Ending.returned (.tuple #[.int .u16 a, .bool b]) = .returned (.tuple #[.int .u16 a', .bool b']) := by rw [h, k]

set_option maxHeartbeats 1000000 in
theorem parseNumbered_any (s p : ByteArray) (w : World) (hs : s.size ≤ 281474976710656) (hE : Errs w) :
    Calls Tryd.prog 10 #[.string s, .string p] w fun e w' => e = .returned (.tuple #[.int .u16 (valI (numbered s.data.toList p.data.toList)), .bool (okB (numbered s.data.toList p.data.toList))]) ∧ Below w.heap.size w w' := by
  have HE : Hid (Errs w) := hE
  clear hE
  cases hp : Lib.hasPrefix s.data.toList p.data.toList with
  | false =>
    have HF : Hid (numbered s.data.toList p.data.toList = none) := by show _ = _; unfold numbered; rw [hp]; simp
    go_enter Tryd.func10, Tryd.ntmps10
    go_wp2_with fail
    refine (Any.strings_CutPrefix Tryd.lays103 s p w).mono ?_
    rintro e w' ⟨rfl, rfl⟩
    rw [hp]
    go_wp2
    go_ret2
    exact ⟨tup (by rw [HF.out]; rfl) (by rw [HF.out]; rfl), Below.refl _ _⟩
  | true =>
    have ht : Lib.trimPrefix s.data.toList p.data.toList = s.data.toList.drop p.data.toList.length := by unfold Lib.trimPrefix; rw [hp]; rfl
    have HF : Hid (numbered s.data.toList p.data.toList = num16 (s.data.toList.drop p.data.toList.length)) := by show _ = _; unfold numbered; rw [hp]; rfl
    obtain ⟨d, hd⟩ : ∃ d, d = s.data.toList.drop p.data.toList.length := ⟨_, rfl⟩
    have hdl : d.length ≤ 281474976710656 := by rw [hd, List.length_drop]; have : s.data.toList.length = s.size := rfl; omega
    rw [← hd] at ht HF
    have HT : Hid (Lib.trimPrefix s.data.toList p.data.toList = d) := ht
    clear hd ht
    go_enter Tryd.func10, Tryd.ntmps10
    go_wp2_with fail
    refine (Any.strings_CutPrefix Tryd.lays103 s p w).mono ?_
    rintro e w' ⟨rfl, rfl⟩
    rw [hp, HT.out]
    go_wp2_with fail
    refine (parse16 _ _ (by show d.toArray.size ≤ _; rw [List.size_toArray]; exact hdl) HE.out).mono ?_
    rintro e w1 ⟨he, hb⟩
    have HB : Hid (Below w'.heap.size w' w1) := hb
    clear hb
    cases hn : num16 d with
    | some u =>
      have hu := num16_le hn
      have he' : e = .returned (.tuple #[.int .u64 (u : Int), .nilIface]) := by
        have h2 := he
        simp only [hn, Got] at h2
        exact h2
      subst he'
      clear he
      have HN : Hid (num16 d = some u) := hn
      clear hn
      go_wp2
      go_ret2
      exact ⟨tup (by rw [HF.out, HN.out]; rfl) (by rw [HF.out, HN.out]; rfl), HB.out⟩
    | none =>
      obtain ⟨n, t, q, he'⟩ : ∃ n t q, e = .returned (.tuple #[.int .u64 n, .iface t q]) := by
        have h2 := he
        simp only [hn, Got] at h2
        exact h2
      subst he'
      clear he
      have HN : Hid (num16 d = none) := hn
      clear hn
      go_wp2
      go_ret2
      exact ⟨tup (by rw [HF.out, HN.out]; rfl) (by rw [HF.out, HN.out]; rfl), HB.out⟩

set_option maxHeartbeats 400000 in
theorem zz_any (s p : ByteArray) (w : World) (hs : s.size ≤ 281474976710656) (hE : Errs w) :
    Calls Tryd.prog 6 #[.string s, .string p] w fun e w' => e = .returned (.tuple #[.int .u16 (valI (numbered s.data.toList p.data.toList)), .bool (okB (numbered s.data.toList p.data.toList))]) ∧ Below w.heap.size w w' := by
  have HE : Hid (Errs w) := hE
  clear hE
  go_enter Tryd.func6, Tryd.ntmps6
  go_wp2_with fail
  refine (parseNumbered_any s p _ hs HE.out).mono ?_
  rintro e w1 ⟨rfl, hb⟩
  have HB : Hid (Below w.heap.size w w1) := hb
  clear hb
  go_wp2
  go_ret2
  exact ⟨rfl, HB.out⟩
end Go.Proofs.Qxb6600206aDoor.Ps
