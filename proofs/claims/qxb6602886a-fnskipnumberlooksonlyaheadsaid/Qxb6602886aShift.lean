import Derived.Test.Qxb6602886aSkipB
namespace Go.Proofs.Qxb6602886a
open Go.RowKit Go.Deep
set_option linter.unusedVariables false
section
variable {B B' : Nat → Int} {n p : Nat}

theorem drun_shift (hB : ∀ k, k < n → B' (p + k) = B k) (k : Nat) (hk : k ≤ n) : drun B' (p + n) (p + k) = p + drun B n k := by
  induction hm : n - k generalizing k with
  | zero => rw [drun_stop (by omega), drun_stop (by omega)]
  | succ m ih =>
    have hkn : k < n := by omega
    by_cases h : 48 ≤ B k ∧ B k ≤ 57
    · rw [drun_step (by omega) (by rw [hB k hkn]; exact h.1) (by rw [hB k hkn]; exact h.2), drun_step hkn h.1 h.2, Nat.add_assoc]
      exact ih (k + 1) (by omega) (by omega)
    · rw [drun_stop (by rw [hB k hkn]; rintro ⟨_, h1⟩; exact h h1), drun_stop (by rintro ⟨_, h1⟩; exact h h1)]

theorem headF_shift (hB : ∀ k, k < n → B' (p + k) = B k) {i : Nat} (hi : i < n) : headF B' (p + i) = p + headF B i := by
  unfold headF
  rw [hB i hi]
  split <;> omega

theorem fracF_shift (hB : ∀ k, k < n → B' (p + k) = B k) {e : Nat} (he : e ≤ n) : fracF B' (p + n) (p + e) = (fracF B n e).map (p + ·) := by
  by_cases h : e < n ∧ B e = 46
  · have h' : p + e < p + n ∧ B' (p + e) = 46 := ⟨by omega, by rw [hB e h.1]; exact h.2⟩
    rw [fracF, if_pos h', fracF, if_pos h, Nat.add_assoc, drun_shift hB (e + 1) h.1]
    by_cases z : drun B n (e + 1) = e + 1
    · rw [if_pos z, if_pos (by omega)]; rfl
    · rw [if_neg z, if_neg (by omega)]; rfl
  · have h' : ¬ (p + e < p + n ∧ B' (p + e) = 46) := by
      rintro ⟨h1, h2⟩
      rw [hB e (by omega)] at h2
      exact h ⟨by omega, h2⟩
    rw [fracF, if_neg h', fracF, if_neg h]; rfl

theorem signF_shift (hB : ∀ k, k < n → B' (p + k) = B k) {f : Nat} (hf : f < n) : signF B' (p + n) (p + f) = p + signF B n f := by
  by_cases h : f + 1 < n ∧ (B (f + 1) = 43 ∨ B (f + 1) = 45)
  · have h' : p + f + 1 < p + n ∧ (B' (p + f + 1) = 43 ∨ B' (p + f + 1) = 45) := ⟨by omega, by rw [Nat.add_assoc, hB (f + 1) h.1]; exact h.2⟩
    rw [signF, if_pos h', signF, if_pos h]; omega
  · have h' : ¬ (p + f + 1 < p + n ∧ (B' (p + f + 1) = 43 ∨ B' (p + f + 1) = 45)) := by
      rintro ⟨h1, h2⟩
      rw [Nat.add_assoc, hB (f + 1) (by omega)] at h2
      exact h ⟨by omega, h2⟩
    rw [signF, if_neg h', signF, if_neg h]; omega

theorem sign_le' {f : Nat} (h : f < n) : signF B n f ≤ n := by
  unfold signF; split <;> omega

theorem expF_shift (hB : ∀ k, k < n → B' (p + k) = B k) {f : Nat} (hf : f ≤ n) : expF B' (p + n) (p + f) = (expF B n f).map (p + ·) := by
  by_cases h : f < n ∧ (B f = 101 ∨ B f = 69)
  · have h' : p + f < p + n ∧ (B' (p + f) = 101 ∨ B' (p + f) = 69) := ⟨by omega, by rw [hB f h.1]; exact h.2⟩
    rw [expF, if_pos h', expF, if_pos h, signF_shift hB h.1, drun_shift hB (signF B n f) (sign_le' h.1)]
    by_cases z : drun B n (signF B n f) = signF B n f
    · rw [if_pos z, if_pos (by omega)]; rfl
    · rw [if_neg z, if_neg (by omega)]; rfl
  · have h' : ¬ (p + f < p + n ∧ (B' (p + f) = 101 ∨ B' (p + f) = 69)) := by
      rintro ⟨h1, h2⟩
      rw [hB f (by omega)] at h2
      exact h ⟨by omega, h2⟩
    rw [expF, if_neg h', expF, if_neg h]; rfl

theorem fracF_le {e f : Nat} (he : e ≤ n) (h : fracF B n e = some f) : f ≤ n := by
  unfold fracF at h
  split at h
  · split at h
    · cases h
    · cases h; exact (drun_le B n (e + 1) (by omega)).2
  · cases h; exact he

/-- THE PLAIN LAW: bytes laid before change nothing. -/
theorem skipF_shift (hB : ∀ k, k < n → B' (p + k) = B k) {i : Nat} (hi : i < n) : skipF B' (p + n) (p + i) = (skipF B n i).map (p + ·) := by
  have hj : headF B i ≤ n := by unfold headF; split <;> omega
  have hd := drun_le B n (headF B i) hj
  unfold skipF
  rw [headF_shift hB hi, drun_shift hB (headF B i) hj]
  by_cases h : drun B n (headF B i) = headF B i ∨ (headF B i + 1 < drun B n (headF B i) ∧ B (headF B i) = 48)
  · rw [if_pos h, if_pos]
    · rfl
    · rcases h with h | h
      · exact Or.inl (by omega)
      · exact Or.inr ⟨by omega, by rw [hB _ (by omega)]; exact h.2⟩
  · rw [if_neg h, if_neg, fracF_shift hB hd.2]
    · cases hf : fracF B n (drun B n (headF B i)) with
      | none => rfl
      | some f => exact expF_shift hB (fracF_le hd.2 hf)
    · rintro (h1 | ⟨h1, h2⟩)
      · exact h (Or.inl (by omega))
      · rw [hB _ (by omega)] at h2
        exact h (Or.inr ⟨by omega, h2⟩)
end
end Go.Proofs.Qxb6602886a
