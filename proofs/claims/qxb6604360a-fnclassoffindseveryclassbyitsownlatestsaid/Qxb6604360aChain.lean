import Derived.Test.Qxb6604360aCls
/- THE CHAINS OF CLASSES, in plain numbers; and the words for a slice of slices. No walk here. -/
namespace Go.Proofs.Qxb6604360a
open Go.RowKit Go.Deep
set_option linter.unusedVariables false

/-- 1 + the newest class below j whose latest starts with remove p; 0: none. -/
def lastTo (R : Nat → Int) (V : Nat → Nat → Int) (L : Nat → Nat) : Nat → Nat → Nat
  | 0, _ => 0
  | j + 1, p => if 0 < L j ∧ V j 0 = R p then j + 1 else lastTo R V L j p

/-- 1 + the newest class below j with an empty latest; 0: none. -/
def bareTo (L : Nat → Nat) : Nat → Nat
  | 0 => 0
  | j + 1 => if L j = 0 then j + 1 else bareTo L j

/-- What zzElementReachable grants. -/
structure Elem (R : Nat → Int) (nr : Nat) (V : Nat → Nat → Int) (L : Nat → Nat) (k : Nat) (Bf N : Nat → Int) (bare : Int) : Prop where
  asc : Asc R nr
  lies : ∀ j, j < k → Lies R nr (V j) (L j)
  dist : ∀ j, j < k → ∀ m, m < j → ¬ Same (V m) (L m) (V j) (L j)
  bef : ∀ j, j < k → 0 < L j → ∀ p, p < nr → R p = V j 0 → Bf j = lastTo R V L j p
  new : ∀ p, p < nr → N p = lastTo R V L k p
  bar : bare = bareTo L k

variable {R : Nat → Int} {nr : Nat} {V : Nat → Nat → Int} {L : Nat → Nat}

theorem lastTo_le (R : Nat → Int) (V : Nat → Nat → Int) (L : Nat → Nat) (p : Nat) : ∀ j, lastTo R V L j p ≤ j
  | 0 => Nat.le_refl _
  | j + 1 => by
    unfold lastTo
    have := lastTo_le R V L p j
    split <;> omega

theorem bareTo_le (L : Nat → Nat) : ∀ j, bareTo L j ≤ j
  | 0 => Nat.le_refl _
  | j + 1 => by
    unfold bareTo
    have := bareTo_le L j
    split <;> omega

theorem lastTo_hit {j p : Nat} (hL : 0 < L j) (hv : V j 0 = R p) : lastTo R V L (j + 1) p = j + 1 := by
  simp [lastTo, hL, hv]
theorem lastTo_miss {j p : Nat} (h : ¬ (0 < L j ∧ V j 0 = R p)) : lastTo R V L (j + 1) p = lastTo R V L j p := by
  simp only [lastTo, if_neg h]
theorem bareTo_hit {j : Nat} (hL : L j = 0) : bareTo L (j + 1) = j + 1 := by simp [bareTo, hL]
theorem bareTo_miss {j : Nat} (hL : 0 < L j) : bareTo L (j + 1) = bareTo L j := by
  simp only [bareTo, if_neg (show ¬ L j = 0 by omega)]

/-- The class that lastTo names starts with that remove; none between it and j does. -/
theorem lastTo_spec (R : Nat → Int) (V : Nat → Nat → Int) (L : Nat → Nat) (p : Nat) : ∀ j,
    (∀ i, lastTo R V L j p = i + 1 → i < j ∧ 0 < L i ∧ V i 0 = R p) ∧ (∀ c, c < j → 0 < L c → V c 0 = R p → c + 1 ≤ lastTo R V L j p)
  | 0 => ⟨fun i h => (by cases h), fun c h => absurd h (Nat.not_lt_zero _)⟩
  | j + 1 => by
    obtain ⟨h1, h2⟩ := lastTo_spec R V L p j
    by_cases e : 0 < L j ∧ V j 0 = R p
    · rw [lastTo_hit e.1 e.2]
      refine ⟨fun i h => ?_, fun c hc _ _ => by omega⟩
      obtain rfl : i = j := by omega
      exact ⟨by omega, e⟩
    · rw [lastTo_miss e]
      refine ⟨fun i h => ?_, fun c hc a b => ?_⟩
      · have := h1 i h
        exact ⟨by omega, this.2⟩
      · by_cases ec : c = j
        · subst ec; exact absurd ⟨a, b⟩ e
        · exact h2 c (by omega) a b

theorem bareTo_spec (L : Nat → Nat) : ∀ j, (∀ i, bareTo L j = i + 1 → i < j ∧ L i = 0) ∧ (∀ c, c < j → L c = 0 → c + 1 ≤ bareTo L j)
  | 0 => ⟨fun i h => (by cases h), fun c h => absurd h (Nat.not_lt_zero _)⟩
  | j + 1 => by
    obtain ⟨h1, h2⟩ := bareTo_spec L j
    by_cases e : L j = 0
    · rw [bareTo_hit e]
      refine ⟨fun i h => ?_, fun c hc _ => by omega⟩
      obtain rfl : i = j := by omega
      exact ⟨by omega, e⟩
    · rw [bareTo_miss (by omega)]
      refine ⟨fun i h => ?_, fun c hc a => ?_⟩
      · have := h1 i h
        exact ⟨by omega, this.2⟩
      · by_cases ec : c = j
        · subst ec; exact absurd a e
        · exact h2 c (by omega) a

/-! ### A slice of slices that came in -/
def RowS (w : World) (a : Option Addr) (k : Nat) (A : Nat → Option Addr) (L C : Nat → Nat) (V : Nat → Nat → Int) : Prop :=
  ∀ j, j < k → (∃ b o, a = some ⟨b, o, none⟩ ∧ b < w.heap.size ∧ w.cell? ⟨b, o + j, none⟩ = some (.slice (A j) (L j) (C j))) ∧ Row .u32 w (A j) (L j) (V j) ∧ (A j = none → L j = 0 ∧ C j = 0)

theorem RowS.below {w w' : World} {a : Option Addr} {k : Nat} {A : Nat → Option Addr} {C : Nat → Nat} (h : RowS w a k A L C V) (hb : Below w.heap.size w w') : RowS w' a k A L C V := by
  intro j hj
  obtain ⟨⟨b, o, ha, hlt, hc⟩, hr, hn⟩ := h j hj
  exact ⟨⟨b, o, ha, Nat.lt_of_lt_of_le hlt hb.size, by rw [hb.cell (p := ⟨b, o + j, none⟩) hlt]; exact hc⟩, hr.below hb, hn⟩

theorem RowS.drewN {w : World} {a : Option Addr} {k : Nat} {A : Nat → Option Addr} {C : Nat → Nat} (h : RowS w a k A L C V) (q : Nat) : RowS (w.drewN q) a k A L C V := fun j hj => h j hj

end Go.Proofs.Qxb6604360a
