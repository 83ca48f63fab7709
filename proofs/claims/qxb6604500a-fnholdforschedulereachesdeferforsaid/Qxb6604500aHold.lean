import Derived.Test.Qxb6604500aProg
import Derived.WalkKit
import Derived.WalkSpells
import Derived.WalkLawsBesides
import Derived.Deep.LoopGhost
/- holdFor (25) by way of ZZholdFor (8). -/
namespace Go.Proofs.Qxb6604500a
open Go.RowKit
set_option linter.unusedVariables false

/-- How long a change that has waited x ticks is held. -/
def holdF (x : Int) : Int := if x ≤ 2 then 2 else if x ≤ 8 then x else if x ≤ 22 then 8 else 30 - x

theorem hold8 (x : Int) (w : World) (h0 : -9223372036854775777 ≤ x) (h1 : x ≤ 9223372036854775807) :
    Calls Try.prog 8 #[.int .i64 x] w fun e w' => e = .returned (.int .i64 (holdF x)) ∧ ∃ c t, w' = w.alloc (.cells c t) := by
  by_cases c1 : x ≤ 2
  · have e : holdF x = 2 := by rw [holdF, if_pos c1]
    rw [e]
    have n1 : ¬ 2 < x := by omega
    have n2 : ¬ 30 - x < 2 := by omega
    clear e
    go_enter Try.func8, Try.ntmps8
    go_wp2
    go_ret
    exact ⟨rfl, _, _, rfl⟩
  · by_cases c2 : x ≤ 8
    · have e : holdF x = x := by rw [holdF, if_neg c1, if_pos c2]
      rw [e]
      have n1 : 2 < x := by omega
      have n2 : ¬ 8 < x := by omega
      have n3 : ¬ 30 - x < x := by omega
      clear e
      go_enter Try.func8, Try.ntmps8
      go_wp2
      go_ret
      exact ⟨rfl, _, _, rfl⟩
    · by_cases c3 : x ≤ 22
      · have e : holdF x = 8 := by rw [holdF, if_neg c1, if_neg c2, if_pos c3]
        rw [e]
        have n1 : 2 < x := by omega
        have n2 : 8 < x := by omega
        have n3 : ¬ 30 - x < 8 := by omega
        clear e
        go_enter Try.func8, Try.ntmps8
        go_wp2
        go_ret
        exact ⟨rfl, _, _, rfl⟩
      · have e : holdF x = 30 - x := by rw [holdF, if_neg c1, if_neg c2, if_neg c3]
        rw [e]
        have n1 : 2 < x := by omega
        have n2 : 8 < x := by omega
        have n3 : 30 - x < 8 := by omega
        clear e
        go_enter Try.func8, Try.ntmps8
        go_wp2
        go_ret
        exact ⟨rfl, _, _, rfl⟩

/-- The law FnHoldForCaseTable (3). -/
theorem law3 (x : Int) (w : World) (h0 : -9223372036854775808 ≤ x) (h1 : x ≤ 9223372036854775807) :
    Calls Try.prog 3 #[.int .i64 x] w fun e w' => e = .returned (.bool true) ∧ Grown w w' := by
  by_cases c0 : x < -9223372036854775777
  · go_enter Try.func3, Try.ntmps3
    go_wp2
    go_ret
    exact ⟨rfl, Grown.refl _⟩
  · have ex : ∀ y : Int, (y == y) = true := fun y => by simp
    by_cases c1 : x ≤ 2
    · have e : Hid (holdF x = 2) := by show _ = _; rw [holdF, if_pos c1]
      go_enter Try.func3, Try.ntmps3
      go_wp2_with fail
      refine (hold8 x _ (by omega) h1).mono ?_
      rintro e' w' ⟨rfl, c, t, rfl⟩
      rw [e.out]
      go_wp2
      go_ret
      exact ⟨rfl, (Grown.refl _).alloc _ _⟩
    · by_cases c2 : x ≤ 8
      · have e : Hid (holdF x = x) := by show _ = _; rw [holdF, if_neg c1, if_pos c2]
        go_enter Try.func3, Try.ntmps3
        go_wp2_with fail
        refine (hold8 x _ (by omega) h1).mono ?_
        rintro e' w' ⟨rfl, c, t, rfl⟩
        rw [e.out]
        go_wp2
        go_ret
        exact ⟨rfl, (Grown.refl _).alloc _ _⟩
      · by_cases c3 : x ≤ 22
        · have e : Hid (holdF x = 8) := by show _ = _; rw [holdF, if_neg c1, if_neg c2, if_pos c3]
          go_enter Try.func3, Try.ntmps3
          go_wp2_with fail
          refine (hold8 x _ (by omega) h1).mono ?_
          rintro e' w' ⟨rfl, c, t, rfl⟩
          rw [e.out]
          go_wp2
          go_ret
          exact ⟨rfl, (Grown.refl _).alloc _ _⟩
        · have e : Hid (holdF x = 30 - x) := by show _ = _; rw [holdF, if_neg c1, if_neg c2, if_neg c3]
          go_enter Try.func3, Try.ntmps3
          go_wp2_with fail
          refine (hold8 x _ (by omega) h1).mono ?_
          rintro e' w' ⟨rfl, c, t, rfl⟩
          rw [e.out]
          go_wp2
          go_ret
          exact ⟨rfl, (Grown.refl _).alloc _ _⟩

/-- So many holds are still to come at most. -/
def need (x : Int) : Int := if x ≤ 1 then 6 else if x ≤ 3 then 5 else if x ≤ 6 then 4 else if x ≤ 13 then 3 else if x ≤ 21 then 2 else if x ≤ 29 then 1 else 0

theorem hold_facts (x : Int) (h0 : 0 ≤ x) (h1 : x < 30) : 1 ≤ holdF x ∧ holdF x ≤ 8 ∧ x + holdF x ≤ 30 ∧ (holdF x < 2 → x + holdF x = 30) ∧ need (x + holdF x) + 1 ≤ need x := by
  have hc : x = 0 ∨ x = 1 ∨ x = 2 ∨ x = 3 ∨ x = 4 ∨ x = 5 ∨ x = 6 ∨ x = 7 ∨ x = 8 ∨ x = 9 ∨ x = 10 ∨ x = 11 ∨ x = 12 ∨ x = 13 ∨ x = 14 ∨ x = 15 ∨ x = 16 ∨ x = 17 ∨ x = 18 ∨ x = 19 ∨ x = 20 ∨ x = 21 ∨ x = 22 ∨ x = 23 ∨ x = 24 ∨ x = 25 ∨ x = 26 ∨ x = 27 ∨ x = 28 ∨ x = 29 := by omega
  rcases hc with rfl | rfl | rfl | rfl | rfl | rfl | rfl | rfl | rfl | rfl | rfl | rfl | rfl | rfl | rfl | rfl | rfl | rfl | rfl | rfl | rfl | rfl | rfl | rfl | rfl | rfl | rfl | rfl | rfl | rfl <;> decide

theorem need_pos (x : Int) : 0 ≤ need x ∧ need x ≤ 6 := by
  unfold need
  repeat' split
  all_goals omega

theorem hold30 : holdF 30 = 0 := by decide

set_option maxHeartbeats 1600000 in
set_option maxRecDepth 100000 in
/-- The law FnHoldForScheduleReachesDeferFor (4). -/
theorem law4 (x : Int) (w : World) (h0 : -9223372036854775808 ≤ x) (h1 : x ≤ 9223372036854775807) :
    Calls Try.prog 4 #[.int .i64 x] w fun e w' => e = .returned (.bool true) ∧ Grown w w' := by
  by_cases c0 : x < 0
  · go_enter Try.func4, Try.ntmps4
    go_wp2
    go_ret
    exact ⟨rfl, Grown.refl _⟩
  · by_cases c1 : 30 < x
    · go_enter Try.func4, Try.ntmps4
      go_wp2
      go_ret
      exact ⟨rfl, Grown.refl _⟩
    · go_enter Try.func4, Try.ntmps4
      go_wp2
      go_loopg [3, 4] 6 (fun g a b wr => ∃ y s : Int, a = .int .i64 y ∧ b = .int .i64 s ∧ 0 ≤ y ∧ y ≤ 30 ∧ 0 ≤ s ∧ s ≤ 6 ∧ Hid (s + need y ≤ 6) ∧ Hid (need y ≤ (g : Int)) ∧ Hid (Grown w wr))
      case atStart => exact ⟨x, 0, rfl, rfl, by omega, by omega, by omega, by omega, by have := need_pos x; show _ ≤ _; omega, by have := need_pos x; show _ ≤ _; omega, Grown.refl _⟩
      case round =>
        obtain ⟨y, s, rfl, rfl, hy0, hy1, hs0, hs1, hn, hg, hw⟩ := hrel
        by_cases hlt : y < 30
        · obtain ⟨f1, f2, f3, f4, f5⟩ := hold_facts y hy0 hlt
          have np := need_pos (y + holdF y)
          have hn' := hn.out
          have hg' := hg.out
          obtain ⟨h, hh⟩ : ∃ h, holdF y = h := ⟨_, rfl⟩
          rw [hh] at f1 f2 f3 f4 f5 np
          have HH : Hid (holdF y = h) := hh
          have H5 : Hid (need (y + h) + 1 ≤ need y) := f5
          have H6 : Hid (s + 1 + need (y + h) ≤ 6) := by show _ ≤ _; omega
          have H7 : Hid (need (y + h) ≤ ((gk - 1 : Nat) : Int) ∧ gk - 1 < gk) := by constructor <;> omega
          have H8 : Hid (s + 1 ≤ 6) := by show _ ≤ _; omega
          clear hh f5 hn' hg' np
          by_cases h2 : h < 2
          · have e2 : (y + h != 30) = false := by simpa using f4 h2
            clear f4
            go_wp2_with fail
            refine (hold8 y _ (by omega) (by omega)).mono ?_
            rintro e w' ⟨rfl, c, t, rfl⟩
            rw [HH.out]
            go_wp2
            go_roundg (gk - 1)
            case measure => exact H7.out.2
            case rel => exact ⟨y + h, s + 1, rfl, rfl, by omega, by omega, by omega, H8.out, H6, H7.out.1, hw.out.alloc _ _⟩
          · clear f4
            go_wp2_with fail
            refine (hold8 y _ (by omega) (by omega)).mono ?_
            rintro e w' ⟨rfl, c, t, rfl⟩
            rw [HH.out]
            go_wp2
            go_roundg (gk - 1)
            case measure => exact H7.out.2
            case rel => exact ⟨y + h, s + 1, rfl, rfl, by omega, by omega, by omega, H8.out, H6, H7.out.1, hw.out.alloc _ _⟩
        · obtain rfl : y = 30 := by omega
          go_wp2_with fail
          refine (hold8 30 _ (by omega) (by omega)).mono ?_
          rintro e w' ⟨rfl, c, t, rfl⟩
          rw [hold30]
          go_wp2
          go_ret
          exact ⟨rfl, hw.out.alloc _ _⟩
end Go.Proofs.Qxb6604500a
