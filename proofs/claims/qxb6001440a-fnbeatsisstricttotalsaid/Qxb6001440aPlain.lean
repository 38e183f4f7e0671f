/-
  Seat b6001440a: plain: what the Go loops compute, round for round; the order of patterns. No Go memory in sight.
-/
import GoSem.Claim
namespace Go.Proofs.Qxb6001440a.Pl

/-- zsplitB1 after k bytes: where the open segment starts, and the segments closed so far. -/
def spl (s : ByteArray) : Nat → Nat × List ByteArray
  | 0 => (0, [])
  | k + 1 => if (s.data.toList.getD k 0).toNat = 47 then (k + 1, (spl s k).2 ++ [s.extract (spl s k).1 k]) else spl s k
/-- The segments of s. -/
def segs (s : ByteArray) : List ByteArray := (spl s s.size).2 ++ [s.extract (spl s s.size).1 s.size]

theorem spl_start (s : ByteArray) (k : Nat) : (spl s k).1 ≤ k := by
  induction k with
  | zero => exact Nat.le_refl _
  | succ k ih =>
    simp only [spl]
    split
    · simp; try omega
    · omega
theorem spl_len (s : ByteArray) (k : Nat) : (spl s k).2.length ≤ k := by
  induction k with
  | zero => exact Nat.le_refl _
  | succ k ih =>
    simp only [spl]
    split
    · simp; try omega
    · omega
theorem segs_len (s : ByteArray) : (segs s).length ≤ s.size + 1 := by
  have := spl_len s s.size
  simp [segs]; omega
theorem extract_le (s : ByteArray) (a b : Nat) : (s.extract a b).size ≤ s.size := by
  rw [ByteArray.size_extract]; omega
theorem spl_seg (s : ByteArray) (k : Nat) : ∀ x ∈ (spl s k).2, x.size ≤ s.size := by
  induction k with
  | zero => intro x hx; simp [spl] at hx
  | succ k ih =>
    intro x hx
    simp only [spl] at hx
    split at hx
    · simp only [List.mem_append, List.mem_singleton] at hx
      rcases hx with hx | rfl
      · exact ih x hx
      · exact extract_le _ _ _
    · exact ih x hx
theorem segs_seg (s : ByteArray) : ∀ x ∈ segs s, x.size ≤ s.size := by
  intro x hx
  simp only [segs, List.mem_append, List.mem_singleton] at hx
  rcases hx with hx | rfl
  · exact spl_seg s _ x hx
  · exact extract_le _ _ _

/-! ### zparseB1 -/
def isPlus (x : ByteArray) : Bool := x.toList == [43]
/-- After k segments: the offset, the first wildcard's place, the number of plusses. -/
def pr (L : List ByteArray) : Nat → Nat × Int × Nat
  | 0 => (0, -1, 0)
  | k + 1 =>
    if isPlus (L.getD k ByteArray.empty) then ((pr L k).1 + ((L.getD k ByteArray.empty).size + 1), (if (pr L k).2.1 < 0 then ((pr L k).1 : Int) else (pr L k).2.1), (pr L k).2.2 + 1)
    else ((pr L k).1 + ((L.getD k ByteArray.empty).size + 1), (pr L k).2.1, (pr L k).2.2)
theorem pr_bounds (L : List ByteArray) (hL : ∀ x ∈ L, x.size ≤ 65536) (k : Nat) : (pr L k).1 ≤ k * 65537 ∧ -1 ≤ (pr L k).2.1 ∧ (pr L k).2.1 ≤ (pr L k).1 ∧ (pr L k).2.2 ≤ k := by
  induction k with
  | zero => simp [pr]
  | succ k ih =>
    have hs : (L.getD k ByteArray.empty).size ≤ 65536 := by
      by_cases h : k < L.length
      · rw [List.getD_eq_getElem?_getD, List.getElem?_eq_getElem h, Option.getD_some]
        exact hL _ (List.getElem_mem h)
      · rw [List.getD_eq_getElem?_getD, List.getElem?_eq_none (by omega), Option.getD_none]
        decide
    obtain ⟨h1, h2, h3, h4⟩ := ih
    simp only [pr]
    split
    · refine ⟨by simp only []; omega, ?_, ?_, by simp only []; omega⟩
      · simp only []; split <;> omega
      · simp only []; split <;> omega
    · exact ⟨by simp only []; omega, h2, by simp only []; omega, by simp only []; omega⟩

def isGlob (t : ByteArray) : Bool := decide (0 < t.size) && ((t.data.toList.getD (t.size - 1) 0).toNat == 42)
def body (t : ByteArray) : ByteArray := if isGlob t then t.extract 0 (t.size - 1) else t
def wild0 (t : ByteArray) : Int := (pr (segs (body t)) (segs (body t)).length).2.1
def plus (t : ByteArray) : Nat := (pr (segs (body t)) (segs (body t)).length).2.2
def wild (t : ByteArray) : Int := if wild0 t < 0 ∧ isGlob t = true then (t.size : Int) - 1 else wild0 t

theorem body_le (t : ByteArray) : (body t).size ≤ t.size := by
  unfold body; split
  · exact extract_le _ _ _
  · exact Nat.le_refl _

/-! ### beats -/
theorem less_total (a : List UInt8) : ∀ b : List UInt8, a ≠ b → Op.bytesLess a b = !Op.bytesLess b a := by
  induction a with
  | nil =>
    intro b h
    cases b with
    | nil => exact absurd rfl h
    | cons y b => rfl
  | cons x a ih =>
    intro b h
    cases b with
    | nil => rfl
    | cons y b =>
      simp only [Op.bytesLess]
      by_cases hxy : x = y
      · subst hxy
        have h' : a ≠ b := fun e => h (by rw [e])
        simp [ih b h', UInt8.lt_irrefl]
      · rcases UInt8.lt_or_lt_of_ne hxy with hlt | hlt
        · have h2 : ¬ y < x := UInt8.lt_asymm hlt
          simp [hlt, h2, Ne.symm hxy]
        · have h2 : ¬ x < y := UInt8.lt_asymm hlt
          simp [hlt, h2, hxy]

/-- What (*pattern).beats answers: text, glob, wildcardAt, plusses of the one, then of the other. -/
def beatsF (t : List UInt8) (n : Nat) (g : Bool) (w p : Int) (t' : List UInt8) (n' : Nat) (g' : Bool) (w' p' : Int) : Bool :=
  if decide (w < 0) ≠ decide (w' < 0) then decide (w < 0)
  else if w ≠ w' then decide (w' < w)
  else if g ≠ g' then !g
  else if p ≠ p' then decide (p < p')
  else if n ≠ n' then decide (n' < n)
  else !Op.bytesLess t t' && !(t == t')

theorem beats_irrefl (t : List UInt8) (n : Nat) (g : Bool) (w p : Int) : beatsF t n g w p t n g w p = false := by
  simp [beatsF]
theorem beats1 {t t' : List UInt8} {n n' : Nat} {g g' : Bool} {w p w' p' : Int} (h : decide (w < 0) ≠ decide (w' < 0)) : beatsF t n g w p t' n' g' w' p' = decide (w < 0) := by
  unfold beatsF; rw [if_pos h]
theorem beats2 {t t' : List UInt8} {n n' : Nat} {g g' : Bool} {w p w' p' : Int} (h : decide (w < 0) = decide (w' < 0)) (h2 : w ≠ w') : beatsF t n g w p t' n' g' w' p' = decide (w' < w) := by
  unfold beatsF; rw [if_neg (fun e => e h), if_pos h2]
theorem beats3 {t t' : List UInt8} {n n' : Nat} {g g' : Bool} {w p p' : Int} (h : g ≠ g') : beatsF t n g w p t' n' g' w p' = !g := by
  unfold beatsF; rw [if_neg (fun e => e rfl), if_neg (fun e => e rfl), if_pos h]
theorem beats4 {t t' : List UInt8} {n n' : Nat} {g : Bool} {w p p' : Int} (h : p ≠ p') : beatsF t n g w p t' n' g w p' = decide (p < p') := by
  unfold beatsF; rw [if_neg (fun e => e rfl), if_neg (fun e => e rfl), if_neg (fun e => e rfl), if_pos h]
theorem beats5 {t t' : List UInt8} {n n' : Nat} {g : Bool} {w p : Int} (h : n ≠ n') : beatsF t n g w p t' n' g w p = decide (n' < n) := by
  unfold beatsF; rw [if_neg (fun e => e rfl), if_neg (fun e => e rfl), if_neg (fun e => e rfl), if_neg (fun e => e rfl), if_pos h]
theorem beats6 {t t' : List UInt8} {n : Nat} {g : Bool} {w p : Int} : beatsF t n g w p t' n g w p = (!Op.bytesLess t t' && !(t == t')) := by
  unfold beatsF; rw [if_neg (fun e => e rfl), if_neg (fun e => e rfl), if_neg (fun e => e rfl), if_neg (fun e => e rfl), if_neg (fun e => e rfl)]

theorem beats_total {t t' : List UInt8} (h : t ≠ t') (n n' : Nat) (g g' : Bool) (w p w' p' : Int) : beatsF t n g w p t' n' g' w' p' = !beatsF t' n' g' w' p' t n g w p := by
  by_cases h1 : decide (w < 0) = decide (w' < 0)
  · by_cases h2 : w = w'
    · subst h2
      by_cases h3 : g = g'
      · subst h3
        by_cases h4 : p = p'
        · subst h4
          by_cases h5 : n = n'
          · subst h5
            rw [beats6, beats6]
            have e := less_total t t' h
            have e1 : (t == t') = false := by simp [h]
            have e2 : (t' == t) = false := by simp [Ne.symm h]
            rw [e, e1, e2]
            simp
          · rw [beats5 h5, beats5 (Ne.symm h5), Bool.eq_iff_iff]; simp; omega
        · rw [beats4 h4, beats4 (Ne.symm h4), Bool.eq_iff_iff]; simp; omega
      · rw [beats3 h3, beats3 (Ne.symm h3)]
        cases g <;> cases g' <;> simp_all
    · rw [beats2 h1 h2, beats2 h1.symm (Ne.symm h2), Bool.eq_iff_iff]; simp; omega
  · rw [beats1 h1, beats1 (Ne.symm h1)]
    cases ha : decide (w < 0) <;> cases hb : decide (w' < 0) <;> simp_all
end Go.Proofs.Qxb6001440a.Pl
