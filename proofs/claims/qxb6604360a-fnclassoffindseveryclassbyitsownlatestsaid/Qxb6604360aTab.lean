import Derived.Test.Qxb6604360aBase
import Derived.Deep.MidRow
import Derived.Deep.AppendLies
/- A TABLE IN CHUNKS OF 1024, as zzBuildStore lays one: the outer slice owns a row of slices, each leads to a block of its own. No program's text is met here. -/
namespace Go.Proofs.Qxb6604360a
open Go.RowKit Go.Deep

/-- The chunk that lies in block b. -/
def chunkV (b : Nat) : Value := .slice (some ⟨b, 0, none⟩) 1024 1024

/-- v owns q chunks (the blocks KB), each a row of 1024 elements of 'size' cells; 'Good r F': what chunk r holds. -/
structure Tab (w : World) (B te ts size : Nat) (v : Value) (q : Nat) (Good : Nat → (Nat → Value) → Prop) (KB : Nat → Nat) : Prop where
  own : w.ownsRow B ts 1 v q ((List.range q).map fun r => chunkV (KB r))
  row : ∀ r, r < q → ∃ F, w.rowIs (KB r) te (1024 * size) F ∧ Good r F

theorem Tab.start (w : World) (B te ts size : Nat) (Good : Nat → (Nat → Value) → Prop) : Tab w B te ts size (.slice none 0 0) 0 Good (fun _ => 0) :=
  ⟨World.ownsRow_nil _ _ _ _, fun r h => absurd h (Nat.not_lt_zero r)⟩

theorem below_grownBy {w w' : World} (h : Below w.heap.size w w') (row : Option Nat) : w.grownBy w' row :=
  ⟨h.os, h.tape, h.output, h.size, fun k hk _ => h.block k hk⟩

theorem ownsRow_below {w w' : World} {base : Nat} {e : TypeId} {size : Nat} {v : Value} {n : Nat} {xs : List Value} (h : w.ownsRow base e size v n xs) (hb : Below w.heap.size w w') : w'.ownsRow base e size v n xs :=
  h.kept (below_grownBy hb none) (by cases v.ownBlock <;> simp)

/-- What lies below the heap's end stays while nothing below it turns. -/
theorem Tab.below {w w' : World} {B te ts size : Nat} {v : Value} {q : Nat} {Good : Nat → (Nat → Value) → Prop} {KB : Nat → Nat} (h : Tab w B te ts size v q Good KB) (hb : Below w.heap.size w w') : Tab w' B te ts size v q Good KB :=
  ⟨ownsRow_below h.own hb, fun r hr => by
    obtain ⟨F, hF, hG⟩ := h.row r hr
    exact ⟨F, hF.of_block (hb.block _ hF.lt), hG⟩⟩

/-- A value's own block holds a row of the value's own element type. -/
theorem own_ne {w : World} {B ts : Nat} {v : Value} {q : Nat} {xs : List Value} {b te n : Nat} {F : Nat → Value} (h : w.ownsRow B ts 1 v q xs) (hr : w.rowIs b te n F) (hne : te ≠ ts) : some b ≠ v.ownBlock := by
  intro e
  rcases h.2 with ⟨rfl, _⟩ | ⟨g, cap, cur, rfl, _, hg, _⟩
  · cases e
  · simp [Value.ownBlock] at e
    subst e
    obtain ⟨c, hc, _⟩ := hr
    rw [hc] at hg
    simp at hg
    exact hne hg.2

theorem range_push (KB : Nat → Nat) (q C : Nat) : ((List.range q).map fun r => chunkV (KB r)) ++ [chunkV C] = (List.range (q + 1)).map fun r => chunkV (if r = q then C else KB r) := by
  rw [List.range_succ, List.map_append]
  congr 1
  · refine List.map_congr_left fun r hr => ?_
    rw [if_neg (by have := List.mem_range.1 hr; omega)]
  · simp

/-- THE OUTER APPEND. wa: the world at the append; w1: behind it. -/
theorem Tab.push {wa w1 : World} {B te ts size : Nat} {v v' : Value} {q C : Nat} {Good : Nat → (Nat → Value) → Prop} {KB : Nat → Nat} {F : Nat → Value}
    (h : Tab wa B te ts size v q Good KB) (hne : te ≠ ts) (hrow : wa.rowIs C te (1024 * size) F) (hG : Good q F)
    (hown : w1.ownsRow B ts 1 v' (q + 1) (((List.range q).map fun r => chunkV (KB r)) ++ [chunkV C])) (hg : wa.grownBy w1 v.ownBlock) :
    Tab w1 B te ts size v' (q + 1) Good (fun r => if r = q then C else KB r) := by
  refine ⟨by rw [← range_push]; exact hown, fun r hr => ?_⟩
  by_cases e : r = q
  · subst e
    refine ⟨F, ?_, hG⟩
    rw [if_pos rfl]
    exact hrow.of_block (hg.block _ hrow.lt (own_ne h.own hrow hne))
  · obtain ⟨F', hF', hG'⟩ := h.row r (by omega)
    refine ⟨F', ?_, hG'⟩
    rw [if_neg e]
    exact hF'.of_block (hg.block _ hF'.lt (own_ne h.own hF' hne))

/-- A store of many cells into a row. -/
theorem rowIs_setCells {b t n : Nat} : ∀ (vs : List Value) (o : Nat) (w : World) (f : Nat → Value), w.rowIs b t n f → (w.setCells b o vs).rowIs b t n (fun j => if o ≤ j ∧ j < o + vs.length then vs.getD (j - o) undef else f j)
  | [], o, w, f, h => h.congr fun j _ => by simp; omega
  | v :: r, o, w, f, h => by
    rw [World.setCells]
    refine (rowIs_setCells r (o + 1) _ _ (h.set o v)).congr fun j _ => ?_
    by_cases e : j = o
    · subst e
      rw [if_neg (by omega), if_pos rfl, if_pos (by simp)]
      simp
    · by_cases e2 : o + 1 ≤ j ∧ j < o + 1 + r.length
      · rw [if_pos e2, if_pos (by simp; omega)]
        obtain ⟨d, hd⟩ : ∃ d, j - o = d + 1 := ⟨j - o - 1, by omega⟩
        rw [hd, show j - (o + 1) = d by omega]
        rfl
      · rw [if_neg e2, if_neg e, if_neg (by simp; omega)]

theorem there_row {w : World} {b t n : Nat} {f : Nat → Value} (h : w.rowIs b t n f) (o k : Nat) (hk : o + k ≤ n) : w.there b o k := fun j hj =>
  ⟨by rw [h.cell (by omega)]; rfl, h.frozen _⟩

theorem below_setCells {B : Nat} {a : World} (b : Nat) (hb : B ≤ b) : ∀ (vs : List Value) (o : Nat) (w : World), Below B a w → Below B a (w.setCells b o vs)
  | [], _, _, h => h
  | v :: r, o, w, h => by
    rw [World.setCells]
    exact below_setCells b hb r (o + 1) _ (h.setCell (p := ⟨b, o, none⟩) hb v)

theorem below_grown {B : Nat} {a w w' : World} {v : Value} {ts q : Nat} {xs : List Value} (h : Below B a w) (hg : w.grownBy w' v.ownBlock) (ho : w.ownsRow B ts 1 v q xs) (hB : B ≤ w.heap.size) : Below B a w' :=
  h.grown hg hB (fun k hk => (ho.lt k hk).1)

/-- A row out of make. -/
theorem rowIs_make (w : World) (z : Array Value) (n : Nat) (t : TypeId) : ∃ f, (w.alloc (.cells (madeCells z n) t)).rowIs w.heap.size t n f := by
  refine ⟨fun i => (madeCells z n).getD i undef, _, blk_alloc_new _ _, size_madeCells _ _, fun i hi => ?_⟩
  have hs : i < (madeCells z n).size := by rw [size_madeCells]; exact hi
  simp [Array.getD, hs]

/-- THE TABLE READ: element i lies in chunk i / 1024. -/
theorem Tab.read {w : World} {B te ts size : Nat} {v : Value} {q : Nat} {Good : Nat → (Nat → Value) → Prop} {KB : Nat → Nat} (h : Tab w B te ts size v q Good KB) {i : Nat} (hi : i / 1024 < q) :
    ∃ cb ccap F, v = .slice (some ⟨cb, 0, none⟩) q ccap ∧ w.cell? ⟨cb, i / 1024, none⟩ = some (chunkV (KB (i / 1024))) ∧ w.rowIs (KB (i / 1024)) te (1024 * size) F ∧ Good (i / 1024) F := by
  obtain ⟨F, hF, hG⟩ := h.row _ hi
  obtain ⟨cb, ccap, rfl, _, _⟩ := h.own.form (by omega)
  refine ⟨cb, ccap, F, rfl, ?_, hF, hG⟩
  rw [h.own.cellAt (i / 1024) (by omega)]
  simp [hi]

end Go.Proofs.Qxb6604360a
