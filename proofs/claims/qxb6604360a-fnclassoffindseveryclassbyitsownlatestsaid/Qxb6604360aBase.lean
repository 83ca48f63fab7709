import Derived.Test.Qxb6604360aProg
import Derived.WalkKit
import Derived.WalkSpells
import Derived.WalkLawsBesides
import Derived.Deep.LoopGhost
import Derived.Deep.OwnRows
import Derived.Deep.QuietTactic
import Derived.BigQuiet
/- WORDS FOR SLICES OF INTEGERS THAT CAME IN, over any later world. -/
namespace Go.Proofs.Qxb6604360a
open Go.RowKit Go.Deep

/-- The first n elements behind the address a are the numbers Z. -/
def Row (k : IntKind) (w : World) (a : Option Addr) (n : Nat) (Z : Nat → Int) : Prop :=
  ∀ i, i < n → ∃ b o, a = some ⟨b, o, none⟩ ∧ b < w.heap.size ∧ w.cell? ⟨b, o + i, none⟩ = some (.int k (Z i))

theorem Row.below {k : IntKind} {w w' : World} {a : Option Addr} {n : Nat} {Z : Nat → Int} (h : Row k w a n Z) (hb : Below w.heap.size w w') : Row k w' a n Z := by
  intro i hi
  obtain ⟨b, o, ha, hlt, hc⟩ := h i hi
  exact ⟨b, o, ha, Nat.lt_of_lt_of_le hlt hb.size, by rw [hb.cell (p := ⟨b, o + i, none⟩) hlt]; exact hc⟩

theorem below_drewN {B : Nat} {a w : World} (h : Below B a w) (n : Nat) : Below B a (w.drewN n) := ⟨h.os, h.tape, h.output, h.size, h.block⟩

end Go.Proofs.Qxb6604360a
