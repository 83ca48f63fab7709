import Derived.Test.Qxb6602886aSkipA
import Derived.Deep.DeepCutAuto
namespace Go.Proofs.Qxb6602886a
open Go.RowKit Go.Deep
set_option linter.unusedVariables false

theorem digits26' (d jb pb rb n c : Nat) (a : Option Addr) (B : Nat → Int) (k0 : Nat) (w : World) (hd : drun B n k0 = k0 + d) (hk : k0 ≤ n) (hn : n ≤ 200000)
    (cj : w.heap[jb]? = some (.cells #[.int .i64 k0] 3 (0, 0))) (cp : w.cell? ⟨pb, 0, none⟩ = some (.pointer (some ⟨rb, 0, none⟩))) (cb : w.cell? ⟨rb, 0, none⟩ = some (.slice a n c)) (hrow : RowB w a n B)
    (n1 : pb ≠ jb) (n2 : rb ≠ jb) (n3 : ∀ b o, a = some ⟨b, o, none⟩ → b ≠ jb) :
    Calls Try.prog 26 #[.pointer (some ⟨jb, 0, none⟩), .pointer (some ⟨pb, 0, none⟩)] w fun e w' => e = .returned (.int .i64 d) ∧ WPut w w' jb (.int .i64 (k0 + d : Nat)) 3 := by
  refine (digits26 jb pb rb n c a B k0 w hk hn cj cp cb hrow n1 n2 n3).mono fun e w' h => ?_
  rw [hd] at h
  refine ⟨?_, h.2⟩
  rw [h.1]
  congr 2
  omega

theorem fail27 (rb n c : Nat) (a : Option Addr) (u v : Value) (w : World) (cb : w.cell? ⟨rb, 0, none⟩ = some (.slice a n c)) (c1 : w.cell? ⟨rb, 1, none⟩ = some u) (c2 : w.cell? ⟨rb, 2, none⟩ = some v)
    (f1 : w.frozen? ⟨rb, 1, none⟩ = false) (f2 : w.frozen? ⟨rb, 2, none⟩ = false) :
    Calls Try.prog 27 #[.pointer (some ⟨rb, 0, none⟩)] w fun e w' => e = .returned (.tuple #[]) ∧ w' = (w.setCell ⟨rb, 2, none⟩ (.bool true)).setCell ⟨rb, 1, none⟩ (.int .i64 n) := by
  go_enter Try.func27, Try.ntmps27
  go_wp2
  go_end0
  exact ⟨rfl, rfl⟩

/-- The part behind the point. -/
def fracF (B : Nat → Int) (n e : Nat) : Option Nat := if e < n ∧ B e = 46 then (if drun B n (e + 1) = e + 1 then none else some (drun B n (e + 1))) else some e
/-- Where the exponent's digits begin. -/
def signF (B : Nat → Int) (n f : Nat) : Nat := if f + 1 < n ∧ (B (f + 1) = 43 ∨ B (f + 1) = 45) then f + 1 + 1 else f + 1
/-- The exponent. -/
def expF (B : Nat → Int) (n f : Nat) : Option Nat := if f < n ∧ (B f = 101 ∨ B f = 69) then (if drun B n (signF B n f) = signF B n f then none else some (drun B n (signF B n f))) else some f
/-- Where the first digits begin. -/
def headF (B : Nat → Int) (i : Nat) : Nat := if B i = 45 then i + 1 else i
/-- Where the number that begins at i ends; none: it is no number. -/
def skipF (B : Nat → Int) (n i : Nat) : Option Nat :=
  if drun B n (headF B i) = headF B i ∨ (headF B i + 1 < drun B n (headF B i) ∧ B (headF B i) = 48) then none
  else (fracF B n (drun B n (headF B i))).bind (expF B n)

/-- Where skipNumber stands: the receiver's box and j. -/
structure KS (w wr : World) (rb k : Nat) : Prop where
  below : Below w.heap.size w wr
  p : wr.heap[w.heap.size]? = some (.cells #[.pointer (some ⟨rb, 0, none⟩)] 46 (0, 0))
  j : wr.heap[w.heap.size + 1]? = some (.cells #[.int .i64 k] 3 (0, 0))

variable {w wr w' : World} {rb k k' : Nat}
theorem KS.start (w : World) (rb k : Nat) : KS w ((w.alloc (.cells #[.pointer (some ⟨rb, 0, none⟩)] 46)).alloc (.cells #[.int .i64 k] 3)) rb k := by
  refine ⟨((Below.refl _ _).alloc (Nat.le_refl _) _).alloc (by simp) _, ?_, ?_⟩
  · rw [Below.heap_alloc _ _ _ (by simp)]; exact heap_alloc_new _ _
  · have := heap_alloc_new (w.alloc (.cells #[.pointer (some ⟨rb, 0, none⟩)] 46)) (.cells #[.int .i64 k] 3)
    simpa using this
theorem KS.drewN (h : KS w wr rb k) (n : Nat) : KS w (wr.drewN n) rb k := ⟨⟨h.below.os, h.below.tape, h.below.output, h.below.size, h.below.block⟩, h.p, h.j⟩
theorem KS.dig (h : KS w wr rb k) (hp : WPut wr w' (w.heap.size + 1) (.int .i64 k') 3) : KS w w' rb k' :=
  ⟨h.below.trans ⟨hp.os, hp.tape, hp.output, by rw [hp.size]; exact Nat.le_refl _, fun x hx => hp.other x (by omega)⟩, (hp.other _ (by omega)).trans h.p, hp.cell⟩
theorem KS.put (h : KS w wr rb k) (x : Int) (hx : x = (k' : Int)) : KS w (wr.setCell ⟨w.heap.size + 1, 0, none⟩ (.int .i64 x)) rb k' := by
  subst hx
  exact h.dig ((WPut.here h.j).put _)

/-- What skipNumber is told: the reader's cells, the row. -/
structure Rd (w : World) (rb n c : Nat) (a : Option Addr) (i : Int) (bad : Bool) (B : Nat → Int) : Prop where
  lt : rb < w.heap.size
  r : w.heap[rb]? = some (.cells #[.slice a n c, .int .i64 i, .bool bad, .int .i64 0, .int .i64 0, .slice none 0 0, .pointer none, .int .i64 0] 49 (0, 0))
  row : RowB w a n B
  n_le : n ≤ 200000
  alt : ∀ b o, a = some ⟨b, o, none⟩ → b < w.heap.size

theorem Rd.facts {n c : Nat} {a : Option Addr} {i : Int} {bad : Bool} {B : Nat → Int} (hR : Rd w rb n c a i bad B) (h : KS w wr rb k) :
    wr.cell? ⟨w.heap.size, 0, none⟩ = some (.pointer (some ⟨rb, 0, none⟩)) ∧ wr.cell? ⟨w.heap.size + 1, 0, none⟩ = some (.int .i64 k) ∧ wr.frozen? ⟨w.heap.size + 1, 0, none⟩ = false ∧
    wr.cell? ⟨rb, 0, none⟩ = some (.slice a n c) ∧ wr.cell? ⟨rb, 1, none⟩ = some (.int .i64 i) ∧ wr.cell? ⟨rb, 2, none⟩ = some (.bool bad) ∧ wr.frozen? ⟨rb, 1, none⟩ = false ∧ wr.frozen? ⟨rb, 2, none⟩ = false := by
  have hr : wr.heap[rb]? = some (.cells #[.slice a n c, .int .i64 i, .bool bad, .int .i64 0, .int .i64 0, .slice none 0 0, .pointer none, .int .i64 0] 49 (0, 0)) := (h.below.block rb hR.lt).trans hR.r
  exact ⟨cellOf h.p 0 rfl, cellOf h.j 0 rfl, frozen_of_row _ _ _ _ _ h.j, cellOf hr 0 rfl, cellOf hr 1 rfl, cellOf hr 2 rfl, frozen_of_row _ _ _ _ _ hr, frozen_of_row _ _ _ _ _ hr⟩
theorem Rd.rowAt {n c : Nat} {a : Option Addr} {i : Int} {bad : Bool} {B : Nat → Int} (hR : Rd w rb n c a i bad B) (h : KS w wr rb k) {x : Nat} (hx : x < n) :
    ∃ b o, a = some ⟨b, o, none⟩ ∧ wr.cell? ⟨b, o + x, none⟩ = some (.int .u8 (B x)) := by
  obtain ⟨b, o, rfl, hc⟩ := hR.row x hx
  exact ⟨b, o, rfl, by rw [h.below.cell (p := ⟨b, o + x, none⟩) (World.block_lt_of_cell? _ ⟨b, o + x, none⟩ hc)]; exact hc⟩
theorem Rd.rowB {n c : Nat} {a : Option Addr} {i : Int} {bad : Bool} {B : Nat → Int} (hR : Rd w rb n c a i bad B) (h : KS w wr rb k) : RowB wr a n B := fun x hx => hR.rowAt h hx

theorem Rd.dig {n c : Nat} {a : Option Addr} {i : Int} {bad : Bool} {B : Nat → Int} (hR : Rd w rb n c a i bad B) (h : KS w wr rb k) (d : Nat) (hd : drun B n k = k + d) (hk : k ≤ n) :
    Calls Try.prog 26 #[.pointer (some ⟨w.heap.size + 1, 0, none⟩), .pointer (some ⟨w.heap.size, 0, none⟩)] wr fun e w' => e = .returned (.int .i64 d) ∧ KS w w' rb (k + d) := by
  have hf := hR.facts h
  have hlt := hR.lt
  have ha : ∀ b o, a = some ⟨b, o, none⟩ → b ≠ w.heap.size + 1 := fun b o e => by have := hR.alt b o e; omega
  exact (digits26' d (w.heap.size + 1) w.heap.size rb n c a B k wr hd hk hR.n_le h.j hf.1 hf.2.2.2.1 (hR.rowB h) (by omega) (by omega) ha).mono fun e w' q => ⟨q.1, h.dig q.2⟩

/-- What skipNumber leaves. -/
def SkipPost (w w' : World) (rb n : Nat) (bad : Bool) (r : Option Nat) : Prop :=
  w'.cell? ⟨rb, 1, none⟩ = some (.int .i64 (r.getD n : Nat)) ∧ w'.cell? ⟨rb, 2, none⟩ = some (.bool (bad || r.isNone)) ∧ Below rb w w'

theorem SkipPost.fail {n c : Nat} {a : Option Addr} {i : Int} {bad : Bool} {B : Nat → Int} (hR : Rd w rb n c a i bad B) (h : KS w wr rb k) : SkipPost w ((wr.setCell ⟨rb, 2, none⟩ (.bool true)).setCell ⟨rb, 1, none⟩ (.int .i64 n)) rb n bad none := by
  obtain ⟨_, _, _, _, c1, c2, _, _⟩ := hR.facts h
  have n1 : (⟨rb, 1, none⟩ : Addr) ≠ ⟨rb, 2, none⟩ := by simp
  have n2 : (⟨rb, 2, none⟩ : Addr) ≠ ⟨rb, 1, none⟩ := by simp
  have hb : Below rb w wr := h.below.mono (by have := hR.lt; omega)
  have g1 : (wr.setCell ⟨rb, 2, none⟩ (.bool true)).cell? ⟨rb, 1, none⟩ = some (.int .i64 i) := by
    rw [World.cell?_setCell_other _ _ _ _ n2]; exact c1
  refine ⟨World.cell?_setCell_same _ _ _ g1, ?_, (hb.setCell (p := ⟨rb, 2, none⟩) (Nat.le_refl _) _).setCell (p := ⟨rb, 1, none⟩) (Nat.le_refl _) _⟩
  rw [World.cell?_setCell_other _ _ _ _ n1, World.cell?_setCell_same _ _ _ c2]; simp

theorem SkipPost.ok {n c : Nat} {a : Option Addr} {i : Int} {bad : Bool} {B : Nat → Int} (hR : Rd w rb n c a i bad B) (h : KS w wr rb k) : SkipPost w (wr.setCell ⟨rb, 1, none⟩ (.int .i64 k)) rb n bad (some k) := by
  obtain ⟨_, _, _, _, c1, c2, _, _⟩ := hR.facts h
  have n1 : (⟨rb, 1, none⟩ : Addr) ≠ ⟨rb, 2, none⟩ := by simp
  have hb : Below rb w wr := h.below.mono (by have := hR.lt; omega)
  refine ⟨World.cell?_setCell_same _ _ _ c1, ?_, hb.setCell (p := ⟨rb, 1, none⟩) (Nat.le_refl _) _⟩
  rw [World.cell?_setCell_other _ _ _ _ n1]; simpa using c2
end Go.Proofs.Qxb6602886a
