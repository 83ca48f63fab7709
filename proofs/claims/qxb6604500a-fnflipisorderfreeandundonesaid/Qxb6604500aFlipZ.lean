import Derived.Test.Qxb6604500aFlip
import Derived.Laws.BitsAllLaws
namespace Go.Proofs.Qxb6604500a
open Go.RowKit Go.Deep
set_option linter.unusedVariables false

set_option maxRecDepth 100000 in
set_option maxHeartbeats 800000 in
theorem mk23 (sp ct : Int) (nm vl ky : ByteArray) (o r f : Bool) (w : World) :
    Calls Try.prog 23 #[.int .u8 sp, .string nm, .string vl, .string ky, .int .u64 ct, .bool o, .bool r, .bool f] w fun e w' => e = .returned (.agg #[.int .u8 sp, .string nm, .string vl, .int .u64 0, .int .u8 0, .string ky, .int .u64 ct, .bool o, .bool r, .bool f]) ∧ Below w.heap.size w w' := by
  go_enter Try.func23, Try.ntmps23
  go_wp2
  exact bodyPost_ret (v := .agg #[.int .u8 sp, .string nm, .string vl, .int .u64 0, .int .u8 0, .string ky, .int .u64 ct, .bool o, .bool r, .bool f]) (by simp [results, Try.results23, go_sem]) rfl ⟨rfl, (Below.refl _ _).alloc (Nat.le_refl _) _⟩

theorem below_drewN {B : Nat} {w w' : World} (h : Below B w w') (n : Nat) : Below B w (w'.drewN n) := ⟨h.os, h.tape, h.output, h.size, h.block⟩

theorem cells2 (w : World) (x y : Value) (t : TypeId) : (w.alloc (.cells #[x, y] t)).cell? ⟨w.heap.size, 0, none⟩ = some x ∧ (w.alloc (.cells #[x, y] t)).cell? ⟨w.heap.size, 1, none⟩ = some y ∧ (w.alloc (.cells #[x, y] t)).frozen? ⟨w.heap.size, 0, none⟩ = false ∧ (w.alloc (.cells #[x, y] t)).frozen? ⟨w.heap.size, 1, none⟩ = false :=
  ⟨cellOf (heap_alloc_new w _) 0 rfl, cellOf (heap_alloc_new w _) 1 rfl, frozen_of_row _ _ _ _ _ (heap_alloc_new w _), frozen_of_row _ _ _ _ _ (heap_alloc_new w _)⟩

set_option maxRecDepth 100000 in
set_option maxHeartbeats 1600000 in
theorem zflip24 (cn sm : Int) (sp ct : Int) (nm vl ky : ByteArray) (o r f b : Bool) (w : World) (z1 : nm.size ≤ 1048576) (z2 : vl.size ≤ 1048576) (z3 : ky.size ≤ 1048576) :
    Calls Try.prog 24 #[.int .i64 cn, .int .u64 sm, .agg #[.int .u8 sp, .string nm, .string vl, .int .u64 0, .int .u8 0, .string ky, .int .u64 ct, .bool o, .bool r, .bool f], .bool b] w fun e w' => e = .returned (.tuple #[.int .i64 (if b then wrap64 (cn + 1) else wrap64 (cn - 1)), .int .u64 (bits .xor .u64 sm (hashF sp ct nm vl ky o r f))]) ∧ Below w.heap.size w w' := by
  obtain ⟨c', hc'⟩ : ∃ c', (if b then wrap64 (cn + 1) else wrap64 (cn - 1)) = c' := ⟨_, rfl⟩
  obtain ⟨s', hs'⟩ : ∃ s', bits .xor .u64 sm (hashF sp ct nm vl ky o r f) = s' := ⟨_, rfl⟩
  rw [hc', hs']
  have HC : Hid ((if b then wrap64 (cn + 1) else wrap64 (cn - 1)) = c') := hc'
  have HS : Hid (bits .xor .u64 sm (hashF sp ct nm vl ky o r f) = s') := hs'
  clear hc' hs'
  go_enter Try.func24, Try.ntmps24
  go_wp2_with fail
  have hc := cells2 (w.alloc (.cells #[.int .u8 sp, .string nm, .string vl, .int .u64 0, .int .u8 0, .string ky, .int .u64 ct, .bool o, .bool r, .bool f] 54)) (.int .i64 cn) (.int .u64 sm) 84
  rw [World.size_alloc] at hc
  refine (flip32 (w.heap.size + 1) sp ct nm vl ky o r f b _ z1 z2 z3 cn sm (by simp) hc.1 hc.2.1 hc.2.2.1 hc.2.2.2).mono ?_
  rintro e w1 ⟨rfl, d0, d1, hb⟩
  have hB : Below w.heap.size w w1 := (((Below.refl _ _).alloc (Nat.le_refl _) _).alloc (by simp) _).trans (hb.mono (by omega))
  have HB : Hid (Below w.heap.size w w1) := hB
  clear hb hB hc
  rw [HC.out] at d0
  rw [HS.out] at d1
  go_wp2
  go_quiet (fail)
  go_wp2
  go_ret2
  exact ⟨rfl, below_drewN HB.out _⟩

set_option maxRecDepth 100000 in
set_option maxHeartbeats 1600000 in
theorem bytes22 (cn sm : Int) (x0 : Int) (x1 x2 x3 : ByteArray) (x4 : Int) (x5 x6 x7 : Bool) (y0 : Int) (y1 y2 y3 : ByteArray) (y4 : Int) (y5 y6 y7 : Bool) (w : World) :
    Calls Try.prog 22 #[.int .i64 cn, .int .u64 sm, .agg #[.int .u8 x0, .string x1, .string x2, .string x3, .int .u64 x4, .bool x5, .bool x6, .bool x7], .agg #[.int .u8 y0, .string y1, .string y2, .string y3, .int .u64 y4, .bool y5, .bool y6, .bool y7]] w fun e w' => ∃ q : Bool, e = .returned (.bool q) ∧ Below w.heap.size w w' := by
  have hB : ∀ x y : Obj, Below w.heap.size w ((w.alloc x).alloc y) := fun x y => ((Below.refl _ _).alloc (Nat.le_refl _) _).alloc (by simp) _
  have HB : Hid (∀ x y : Obj, Below w.heap.size w ((w.alloc x).alloc y)) := hB
  clear hB
  go_enter Try.func22, Try.ntmps22
  go_wp2
  all_goals
    go_ret
    exact ⟨_, rfl, HB.out _ _⟩

theorem hash_range (sp ct : Int) (nm vl ky : ByteArray) (o r f : Bool) : 0 ≤ hashF sp ct nm vl ky o r f ∧ hashF sp ct nm vl ky o r f < 18446744073709551616 := by
  unfold hashF
  rw [show 18 + ky.size = (17 + ky.size) + 1 from by omega]
  simp only [fnvTo, fstep, IntKind.wrap_u64]
  omega

/-- The sum with a hash put in, or taken out. -/
abbrev X (a b : Int) : Int := bits .xor .u64 a b
theorem X_range {a b : Int} (ha : 0 ≤ a ∧ a < 18446744073709551616) (hb : 0 ≤ b ∧ b < 18446744073709551616) : 0 ≤ X a b ∧ X a b < 18446744073709551616 := by
  have hx : a.toNat ^^^ b.toNat < 2 ^ 64 := Nat.xor_lt_two_pow (by omega) (by omega)
  rw [X, u64_xor a b ha.1 ha.2 hb.1 hb.2]
  omega
theorem X_cancel {a b : Int} (ha : 0 ≤ a ∧ a < 18446744073709551616) (hb : 0 ≤ b ∧ b < 18446744073709551616) : X (X a b) b = a := by
  have hr := X_range ha hb
  rw [X, u64_xor _ b hr.1 hr.2 hb.1 hb.2, X, u64_xor a b ha.1 ha.2 hb.1 hb.2, Int.toNat_natCast, Nat.xor_assoc, Nat.xor_self, Nat.xor_zero]
  omega
theorem X_comm {s a b : Int} (hs : 0 ≤ s ∧ s < 18446744073709551616) (ha : 0 ≤ a ∧ a < 18446744073709551616) (hb : 0 ≤ b ∧ b < 18446744073709551616) : X (X s a) b = X (X s b) a := by
  have h1 := X_range hs ha
  have h2 := X_range hs hb
  rw [X, u64_xor _ b h1.1 h1.2 hb.1 hb.2, X, u64_xor s a hs.1 hs.2 ha.1 ha.2, X, u64_xor _ a h2.1 h2.2 ha.1 ha.2, X, u64_xor s b hs.1 hs.2 hb.1 hb.2, Int.toNat_natCast, Int.toNat_natCast, Nat.xor_assoc, Nat.xor_assoc, Nat.xor_comm a.toNat]

theorem zflipT (cn sm c' s' : Int) (sp ct : Int) (nm vl ky : ByteArray) (o r f : Bool) (w : World) (z1 : nm.size ≤ 1048576) (z2 : vl.size ≤ 1048576) (z3 : ky.size ≤ 1048576) (hc : wrap64 (cn + 1) = c') (hs : X sm (hashF sp ct nm vl ky o r f) = s') :
    Calls Try.prog 24 #[.int .i64 cn, .int .u64 sm, .agg #[.int .u8 sp, .string nm, .string vl, .int .u64 0, .int .u8 0, .string ky, .int .u64 ct, .bool o, .bool r, .bool f], .bool true] w fun e w' => e = .returned (.tuple #[.int .i64 c', .int .u64 s']) ∧ Below w.heap.size w w' := by
  subst hc hs
  exact (zflip24 cn sm sp ct nm vl ky o r f true w z1 z2 z3).mono fun e w' h => by simpa using h
theorem zflipF (cn sm c' s' : Int) (sp ct : Int) (nm vl ky : ByteArray) (o r f : Bool) (w : World) (z1 : nm.size ≤ 1048576) (z2 : vl.size ≤ 1048576) (z3 : ky.size ≤ 1048576) (hc : wrap64 (cn - 1) = c') (hs : X sm (hashF sp ct nm vl ky o r f) = s') :
    Calls Try.prog 24 #[.int .i64 cn, .int .u64 sm, .agg #[.int .u8 sp, .string nm, .string vl, .int .u64 0, .int .u8 0, .string ky, .int .u64 ct, .bool o, .bool r, .bool f], .bool false] w fun e w' => e = .returned (.tuple #[.int .i64 c', .int .u64 s']) ∧ Below w.heap.size w w' := by
  subst hc hs
  exact (zflip24 cn sm sp ct nm vl ky o r f false w z1 z2 z3).mono fun e w' h => by simpa using h

/-- The eight cells of a parameter. -/
def mkP (x0 : Int) (x1 x2 x3 : ByteArray) (x4 : Int) (x5 x6 x7 : Bool) : List Value := [.int .u8 x0, .string x1, .string x2, .string x3, .int .u64 x4, .bool x5, .bool x6, .bool x7]

/-- The two boxed parameters stand. -/
structure LS (w wr : World) (A B : List Value) : Prop where
  below : Below w.heap.size w wr
  a : wr.heap[w.heap.size]? = some (.cells A.toArray 49 (0, 0))
  b : wr.heap[w.heap.size + 1]? = some (.cells B.toArray 49 (0, 0))
theorem LS.start (w : World) (A B : List Value) : LS w ((w.alloc (.cells A.toArray 49)).alloc (.cells B.toArray 49)) A B := by
  refine ⟨((Below.refl _ _).alloc (Nat.le_refl _) _).alloc (by simp) _, ?_, ?_⟩
  · rw [Below.heap_alloc _ _ _ (by simp)]; exact heap_alloc_new _ _
  · have := heap_alloc_new (w.alloc (.cells A.toArray 49)) (.cells B.toArray 49)
    simpa using this
theorem LS.later {w wr w' : World} {A B : List Value} (h : LS w wr A B) (hb : Below wr.heap.size wr w') : LS w w' A B :=
  ⟨h.below.trans (hb.mono h.below.size), (hb.block _ (lt_of h.a)).trans h.a, (hb.block _ (lt_of h.b)).trans h.b⟩
theorem LS.alloc {w wr : World} {A B : List Value} (h : LS w wr A B) (x : Obj) : LS w (wr.alloc x) A B := h.later ((Below.refl _ _).alloc (Nat.le_refl _) _)

/-- The two items stand in the blocks p and q. -/
structure IS (w wr : World) (p q : Nat) (A B : List Value) : Prop where
  below : Below w.heap.size w wr
  a : wr.heap[p]? = some (.cells A.toArray 54 (0, 0))
  b : wr.heap[q]? = some (.cells B.toArray 54 (0, 0))
theorem IS.later {w wr w' : World} {p q : Nat} {A B : List Value} (h : IS w wr p q A B) (hb : Below wr.heap.size wr w') : IS w w' p q A B :=
  ⟨h.below.trans (hb.mono h.below.size), (hb.block _ (lt_of h.a)).trans h.a, (hb.block _ (lt_of h.b)).trans h.b⟩
end Go.Proofs.Qxb6604500a
