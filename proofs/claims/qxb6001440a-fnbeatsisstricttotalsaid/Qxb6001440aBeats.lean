/-
  Seat b6001440a: the walks of zbuildB1 (10) with ZZNewPattern, (*pattern).beats (20), ZZBeats (14).
-/
import Derived.Test.Qxb6001440aParse
namespace Go.Proofs.Qxb6001440a.Bt
open Go.RowKit Go.Proofs.Qxb6001440a.Pl Go.Proofs.Qxb6001440a.Sp Go.Proofs.Qxb6001440a.Ps
set_option linter.unusedVariables false

/-- Block b is the pattern of the text t. -/
def PatAt (w : World) (b : Nat) (t : ByteArray) : Prop :=
  w.cell? ⟨b, 0, none⟩ = some (.string t) ∧ w.cell? ⟨b, 1, none⟩ = some (.bool (isGlob t)) ∧ w.cell? ⟨b, 3, none⟩ = some (.int .i64 (wild t)) ∧ w.cell? ⟨b, 4, none⟩ = some (.int .i64 (plus t))
theorem PatAt.below {w w' : World} {b : Nat} {t : ByteArray} (h : PatAt w b t) (hb : Below w.heap.size w w') : PatAt w' b t := by
  obtain ⟨h0, h1, h3, h4⟩ := h
  have hlt : b < w.heap.size := World.block_lt_of_cell? _ _ h0
  exact ⟨(hb.cell (p := ⟨b, 0, none⟩) hlt).trans h0, (hb.cell (p := ⟨b, 1, none⟩) hlt).trans h1, (hb.cell (p := ⟨b, 3, none⟩) hlt).trans h3, (hb.cell (p := ⟨b, 4, none⟩) hlt).trans h4⟩

theorem pat_made {w1 : World} {A : Obj} {t : ByteArray} {g : Bool} {s : Value} {wi : Int} {pl : Nat} (hg : isGlob t = g) (hw : wild t = wi) (hp : plus t = pl) :
    PatAt ((w1.alloc A).alloc (.cells #[.string t, .bool g, s, .int .i64 wi, .int .i64 (pl : Int)] 38)) (w1.heap.size + 1) t := by
  subst hg hw hp
  have hs : w1.heap.size + 1 = (w1.alloc A).heap.size := by simp
  rw [hs]
  exact ⟨by simp, by simp, by simp, by simp⟩

set_option maxHeartbeats 1000000 in
theorem build_any (t : ByteArray) (w : World) (ht : t.size ≤ 65536) :
    Calls Try.prog 10 #[.string t] w fun e w' => ∃ b, e = .returned (.pointer (some ⟨b, 0, none⟩)) ∧ PatAt w' b t ∧ Below w.heap.size w w' := by
  go_enter Try.func10, Try.ntmps10
  go_wp2_with fail
  refine (parse_any t _ ht).mono ?_
  rintro e w1 ⟨⟨a, n, c, hp, rfl⟩, b1⟩
  have HB : Hid (Below w.heap.size w w1) := b1
  clear b1
  obtain ⟨g, hg⟩ : ∃ g, g = isGlob t := ⟨_, rfl⟩
  obtain ⟨wi, hwi⟩ : ∃ x, x = wild t := ⟨_, rfl⟩
  obtain ⟨pl, hpl⟩ : ∃ x, x = plus t := ⟨_, rfl⟩
  obtain ⟨bd, hbd⟩ : ∃ x, x = body t := ⟨_, rfl⟩
  rw [← hg, ← hwi, ← hpl, ← hbd]
  have HE : Hid (isGlob t = g ∧ wild t = wi ∧ plus t = pl) := ⟨hg.symm, hwi.symm, hpl.symm⟩
  clear hg hwi hpl hbd
  cases hp with
  | true =>
    go_wp2
    go_ret
    exact ⟨w1.heap.size + 1, rfl, pat_made HE.out.1 HE.out.2.1 HE.out.2.2, (HB.out.alloc HB.out.size _).alloc (Nat.le_trans HB.out.size (by simp)) _⟩
  | false =>
    go_wp2
    go_ret
    exact ⟨w1.heap.size + 1, rfl, pat_made HE.out.1 HE.out.2.1 HE.out.2.2, (HB.out.alloc HB.out.size _).alloc (Nat.le_trans HB.out.size (by simp)) _⟩

theorem beats6' {t t' : List UInt8} {n n' : Nat} {g : Bool} {w p : Int} (h : n = n') : beatsF t n g w p t' n' g w p = (!Op.bytesLess t t' && !(t == t')) := by
  subst h; exact beats6
theorem ret_bool {a b : Bool} (h : a = b) : Ending.returned (.bool a) = .returned (.bool b) := by rw [h]
theorem belowN {B : Nat} {a b : World} (h : Below B a b) (n : Nat) : Below B a (b.drewN n) := ⟨h.os, h.tape, h.output, h.size, h.block⟩

set_option maxHeartbeats 4000000 in
theorem beats_core (w : World) (b1 b2 : Nat) (t1 t2 : ByteArray) (g1 g2 : Bool) (x1 x2 p1 p2 : Int) (s1 : t1.size ≤ 65536) (s2 : t2.size ≤ 65536)
    (c0 : w.cell? ⟨b1, 0, none⟩ = some (.string t1)) (c1 : w.cell? ⟨b1, 1, none⟩ = some (.bool g1)) (c3 : w.cell? ⟨b1, 3, none⟩ = some (.int .i64 x1)) (c4 : w.cell? ⟨b1, 4, none⟩ = some (.int .i64 p1))
    (d0 : w.cell? ⟨b2, 0, none⟩ = some (.string t2)) (d1 : w.cell? ⟨b2, 1, none⟩ = some (.bool g2)) (d3 : w.cell? ⟨b2, 3, none⟩ = some (.int .i64 x2)) (d4 : w.cell? ⟨b2, 4, none⟩ = some (.int .i64 p2)) :
    Calls Try.prog 20 #[.pointer (some ⟨b1, 0, none⟩), .pointer (some ⟨b2, 0, none⟩)] w fun e w' => e = .returned (.bool (beatsF t1.toList t1.size g1 x1 p1 t2.toList t2.size g2 x2 p2)) ∧ Below w.heap.size w w' := by
  by_cases h1 : decide (x1 < 0) = decide (x2 < 0)
  · have q1 : (decide (x1 < 0) == decide (x2 < 0)) = true := by rw [h1]; simp
    have H1 : Hid (decide (x1 < 0) = decide (x2 < 0)) := h1
    clear h1
    by_cases h2 : x1 = x2
    · subst h2
      have q2 : (x1 != x1) = false := by simp
      by_cases h3 : g1 = g2
      · subst h3
        have q3 : (g1 == g1) = true := by simp
        by_cases h4 : p1 = p2
        · subst h4
          have q4 : (p1 != p1) = false := by simp
          by_cases h5 : t1.size = t2.size
          · have q5 : ((t1.size : Int) != (t2.size : Int)) = false := by rw [h5]; simp
            have H5 : Hid (t1.size = t2.size) := h5
            clear h5
            go_enter Try.func20, Try.ntmps20
            go_wp2
            go_quiet (fail)
            go_wp2
            go_quiet (fail)
            go_wp2
            go_quiet (fail)
            go_wp2
            go_quiet (fail)
            go_wp2
            go_quiet (fail)
            go_wp2
            go_quiet (fail)
            go_wp2
            go_ret
            exact ⟨ret_bool (beats6' H5.out).symm, (belowN (belowN (belowN (belowN (belowN (belowN (Below.refl _ _) _) _) _) _) _) _)⟩
          · have q5 : ((t1.size : Int) != (t2.size : Int)) = true := by simp; omega
            have H5 : Hid (t1.size ≠ t2.size) := h5
            clear h5
            go_enter Try.func20, Try.ntmps20
            go_wp2
            go_quiet (fail)
            go_wp2
            go_quiet (fail)
            go_wp2
            go_quiet (fail)
            go_wp2
            go_quiet (fail)
            go_wp2
            go_quiet (fail)
            go_wp2
            go_quiet (fail)
            go_wp2
            go_ret
            exact ⟨ret_bool ((beats5 H5.out).trans (by simp)).symm, (belowN (belowN (belowN (belowN (belowN (belowN (Below.refl _ _) _) _) _) _) _) _)⟩
        · have q4 : (p1 != p2) = true := by simpa using h4
          have H4 : Hid (p1 ≠ p2) := h4
          clear h4
          go_enter Try.func20, Try.ntmps20
          go_wp2
          go_quiet (fail)
          go_wp2
          go_quiet (fail)
          go_wp2
          go_quiet (fail)
          go_wp2
          go_quiet (fail)
          go_wp2
          go_quiet (fail)
          go_wp2
          go_ret
          exact ⟨ret_bool (beats4 H4.out).symm, (belowN (belowN (belowN (belowN (belowN (Below.refl _ _) _) _) _) _) _)⟩
      · have q3 : (g1 == g2) = false := by simpa using h3
        have H3 : Hid (g1 ≠ g2) := h3
        clear h3
        go_enter Try.func20, Try.ntmps20
        go_wp2
        go_quiet (fail)
        go_wp2
        go_quiet (fail)
        go_wp2
        go_quiet (fail)
        go_wp2
        go_ret
        exact ⟨ret_bool (beats3 H3.out).symm, belowN (Below.refl _ _) _⟩
    · have q2 : (x1 != x2) = true := by simpa using h2
      have H2 : Hid (x1 ≠ x2) := h2
      clear h2
      go_enter Try.func20, Try.ntmps20
      go_wp2
      go_quiet (fail)
      go_wp2
      go_quiet (fail)
      go_wp2
      go_quiet (fail)
      go_wp2
      go_ret
      exact ⟨ret_bool (beats2 H1.out H2.out).symm, (belowN (belowN (belowN (Below.refl _ _) _) _) _)⟩
  · have q1 : (decide (x1 < 0) == decide (x2 < 0)) = false := by simp only [beq_eq_false_iff_ne]; exact h1
    have H1 : Hid (decide (x1 < 0) ≠ decide (x2 < 0)) := h1
    clear h1
    go_enter Try.func20, Try.ntmps20
    go_wp2
    go_quiet (fail)
    go_wp2
    go_ret
    exact ⟨ret_bool (beats1 H1.out).symm, (belowN (Below.refl _ _) _)⟩

set_option maxHeartbeats 400000 in
theorem zzBeats_any (w : World) (b1 b2 : Nat) (t1 t2 : ByteArray) (s1 : t1.size ≤ 65536) (s2 : t2.size ≤ 65536) (h1 : PatAt w b1 t1) (h2 : PatAt w b2 t2) :
    Calls Try.prog 14 #[.pointer (some ⟨b1, 0, none⟩), .pointer (some ⟨b2, 0, none⟩)] w fun e w' => e = .returned (.bool (beatsF t1.toList t1.size (isGlob t1) (wild t1) (plus t1) t2.toList t2.size (isGlob t2) (wild t2) (plus t2))) ∧ Below w.heap.size w w' := by
  obtain ⟨c0, c1, c3, c4⟩ := h1
  obtain ⟨d0, d1, d3, d4⟩ := h2
  go_enter Try.func14, Try.ntmps14
  go_wp2_with fail
  refine (beats_core w b1 b2 t1 t2 _ _ _ _ _ _ s1 s2 c0 c1 c3 c4 d0 d1 d3 d4).mono ?_
  rintro e w' ⟨rfl, hb⟩
  go_wp2
  go_ret
  exact ⟨rfl, hb⟩
end Go.Proofs.Qxb6001440a.Bt
