import Derived.Test.Qxb6602886aSkip
namespace Go.Proofs.Qxb6602886a
open Go.RowKit Go.Deep
set_option linter.unusedVariables false
theorem below_drewN {B : Nat} {w w' : World} (h : Below B w w') (n : Nat) : Below B w (w'.drewN n) := ⟨h.os, h.tape, h.output, h.size, h.block⟩

set_option maxRecDepth 100000 in
set_option maxHeartbeats 1600000 in
theorem zskip20 (n c i : Nat) (a : Option Addr) (bad : Bool) (B : Nat → Int) (w : World) (hrow : RowB w a n B) (halt : ∀ b o, a = some ⟨b, o, none⟩ → b < w.heap.size) (hn : n ≤ 200000) (hi : i < n) :
    Calls Try.prog 20 #[.slice a n c, .int .i64 i, .bool bad] w fun e w' => e = .returned (.tuple #[.int .i64 ((skipF B n i).getD n : Nat), .bool (bad || (skipF B n i).isNone)]) ∧ Below w.heap.size w w' := by
  have hR : Rd (w.alloc (.cells #[.slice a n c, .int .i64 i, .bool bad, .int .i64 0, .int .i64 0, .slice none 0 0, .pointer none, .int .i64 0] 49)) w.heap.size n c a i bad B :=
    ⟨by simp, heap_alloc_new _ _, fun x hx => by
      obtain ⟨b, o, rfl, hc⟩ := hrow x hx
      exact ⟨b, o, rfl, by rw [World.cell?_alloc_lt _ _ _ (halt b o rfl)]; exact hc⟩, hn, fun b o e => by have := halt b o e; simp; omega⟩
  have HR : Hid _ := hR
  clear hR hrow halt
  have hsk := skip25 w.heap.size n c i a bad B _ HR.out hi
  obtain ⟨sk, hsk0⟩ : ∃ sk, skipF B n i = sk := ⟨_, rfl⟩
  rw [hsk0] at hsk ⊢
  have HSK : Hid _ := hsk
  clear hsk hsk0
  obtain ⟨r, hr⟩ : ∃ r : Nat, sk.getD n = r := ⟨_, rfl⟩
  obtain ⟨s, hs⟩ : ∃ s, (bad || sk.isNone) = s := ⟨_, rfl⟩
  rw [hr, hs]
  have HRS : Hid (sk.getD n = r ∧ (bad || sk.isNone) = s) := ⟨hr, hs⟩
  clear hr hs
  go_enter Try.func20, Try.ntmps20
  go_wp2_with fail
  refine Calls.mono HSK.out ?_
  rintro e w1 ⟨rfl, d0, d1, hb⟩
  rw [HRS.out.1] at d0
  rw [HRS.out.2] at d1
  have HB : Hid (Below w.heap.size w w1) := ((Below.refl _ _).alloc (Nat.le_refl _) _).trans hb
  clear hb
  go_wp2
  go_quiet (fail)
  go_wp2
  go_ret2
  exact ⟨rfl, below_drewN HB.out _⟩
end Go.Proofs.Qxb6602886a
