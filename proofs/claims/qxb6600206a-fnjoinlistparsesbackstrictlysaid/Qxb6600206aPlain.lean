/-
  The plain laws of seat b6600206a: no Go in sight.
-/
namespace Go.Proofs.Qxb6600206a.Pl

/-- ASCII lower case of a byte, as a number. -/
def lwN (c : Nat) : Nat := if 65 ≤ c ∧ c ≤ 90 then c + 32 else c

/-- Two texts are one name: the same but for ASCII case. -/
def nameEq (a b : List UInt8) : Bool := a.map (fun c => lwN c.toNat) == b.map (fun c => lwN c.toNat)

theorem nameEq_len {a b : List UInt8} (h : a.length ≠ b.length) : nameEq a b = false := by
  unfold nameEq
  rw [beq_eq_false_iff_ne]
  intro e
  exact h (by simpa using congrArg List.length e)

theorem nameEq_at {a b : List UInt8} (k : Nat) (ha : k < a.length) (hb : k < b.length) (h : lwN (a[k]).toNat ≠ lwN (b[k]).toNat) : nameEq a b = false := by
  unfold nameEq
  rw [beq_eq_false_iff_ne]
  intro e
  apply h
  have := congrArg (fun l => l[k]?) e
  simpa [ha, hb] using this

theorem nameEq_all {a b : List UInt8} (hl : a.length = b.length) (h : ∀ i (ha : i < a.length) (hb : i < b.length), lwN (a[i]).toNat = lwN (b[i]).toNat) : nameEq a b = true := by
  unfold nameEq
  rw [beq_iff_eq]
  apply List.ext_getElem
  · simpa using hl
  · intro i h1 h2
    simpa using h i (by simpa using h1) (by simpa using h2)

theorem nameEq_refl (a : List UInt8) : nameEq a a = true := by simp [nameEq]
theorem nameEq_symm (a b : List UInt8) : nameEq a b = nameEq b a := by
  unfold nameEq
  rw [Bool.eq_iff_iff, beq_iff_eq, beq_iff_eq]
  exact ⟨Eq.symm, Eq.symm⟩
theorem nameEq_trans {a b c : List UInt8} (h : nameEq a b = true) (k : nameEq b c = true) : nameEq a c = true := by
  unfold nameEq at *
  rw [beq_iff_eq] at *
  exact h.trans k
/-- What has the same lower case answers the same. -/
theorem nameEq_congr {a a' : List UInt8} (h : nameEq a' a = true) (b : List UInt8) : nameEq a' b = nameEq a b ∧ nameEq b a' = nameEq b a := by
  unfold nameEq at *
  rw [beq_iff_eq] at h
  rw [h]
  exact ⟨rfl, rfl⟩

/-! ### The bit-level fold -/
def foldN (c d : Nat) : Bool := c == d || (c ^^^ d == 32 && (decide (97 ≤ c ||| 32) && decide (c ||| 32 ≤ 122)))

theorem fold_up : ∀ c : Fin 256, 65 ≤ c.val → c.val ≤ 90 → (c.val ^^^ (c.val + 32) = 32 ∧ (c.val + 32) ^^^ c.val = 32 ∧ c.val ||| 32 = c.val + 32 ∧ (c.val + 32) ||| 32 = c.val + 32) := by decide +kernel
theorem fold_back : ∀ c : Fin 256, 97 ≤ c.val ||| 32 → c.val ||| 32 ≤ 122 → lwN (c.val ^^^ 32) = lwN c.val := by decide +kernel

theorem fold_iff (c d : Nat) (hc : c < 256) (hd : d < 256) : foldN c d = (lwN c == lwN d) := by
  rw [Bool.eq_iff_iff, beq_iff_eq]
  constructor
  · intro h
    simp only [foldN, Bool.or_eq_true, Bool.and_eq_true, beq_iff_eq, decide_eq_true_eq] at h
    rcases h with h | ⟨hx, h1, h2⟩
    · rw [h]
    · have e : d = c ^^^ 32 := by rw [← hx, ← Nat.xor_assoc, Nat.xor_self, Nat.zero_xor]
      rw [e]
      exact (fold_back ⟨c, hc⟩ h1 h2).symm
  · intro h
    have h3 : c = d ∨ (65 ≤ c ∧ c ≤ 90 ∧ d = c + 32) ∨ (65 ≤ d ∧ d ≤ 90 ∧ c = d + 32) := by
      unfold lwN at h
      split at h <;> split at h <;> omega
    simp only [foldN, Bool.or_eq_true, Bool.and_eq_true, beq_iff_eq, decide_eq_true_eq]
    rcases h3 with h3 | ⟨a1, a2, rfl⟩ | ⟨a1, a2, rfl⟩
    · exact Or.inl h3
    · have := fold_up ⟨c, hc⟩ a1 a2
      simp only at this
      exact Or.inr ⟨this.1, by rw [this.2.2.1]; omega, by rw [this.2.2.1]; omega⟩
    · have := fold_up ⟨d, hd⟩ a1 a2
      simp only at this
      exact Or.inr ⟨this.2.1, by rw [this.2.2.2]; omega, by rw [this.2.2.2]; omega⟩

/-! ### Case flips -/
def flipN (c m : Nat) : Nat := if m % 2 = 1 then (if 97 ≤ c ∧ c ≤ 122 then c - 32 else if 65 ≤ c ∧ c ≤ 90 then c + 32 else c) else c

theorem lw_flip : ∀ c : Fin 256, ∀ m, lwN (flipN c.val m) = lwN c.val := by
  have h0 : ∀ c : Fin 256, lwN (flipN c.val 1) = lwN c.val := by decide +kernel
  intro c m
  by_cases hm : m % 2 = 1
  · have : flipN c.val m = flipN c.val 1 := by simp [flipN, hm]
    rw [this]; exact h0 c
  · unfold flipN; rw [if_neg hm]

end Go.Proofs.Qxb6600206a.Pl
