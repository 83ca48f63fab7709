import Derived.Test.Qxb6604360aBase
namespace Go.Proofs.Qxb6604360a
open Go.RowKit Go.Deep
set_option linter.unusedVariables false

theorem Row.drewN {k : IntKind} {w : World} {a : Option Addr} {n : Nat} {Z : Nat → Int} (h : Row k w a n Z) (q : Nat) : Row k (w.drewN q) a n Z := fun i hi => h i hi

/-- The numbers go up. -/
def Asc (R : Nat → Int) (n : Nat) : Prop := ∀ i j, i < j → j < n → R i < R j

theorem Asc.lt {R : Nat → Int} {n i j : Nat} (h : Asc R n) (hi : i < n) (hj : j < n) (hlt : R i < R j) : i < j := by
  by_cases e : i < j
  · exact e
  · by_cases e2 : j = i
    · subst e2; omega
    · have := h j i (by omega) hi; omega

theorem Asc.inj {R : Nat → Int} {n i j : Nat} (h : Asc R n) (hi : i < n) (hj : j < n) (e : R i = R j) : i = j := by
  by_cases e1 : i < j
  · have := h i j e1 hj; omega
  · by_cases e2 : j < i
    · have := h j i e2 hi; omega
    · omega

theorem all_step {Q : Nat → Prop} {k : Nat} (h : ∀ i, i < k → Q i) (hk : Q k) : ∀ i, i < k + 1 → Q i := by
  intro i hi
  by_cases e : i = k
  · exact e ▸ hk
  · exact h i (by omega)

set_option maxHeartbeats 800000 in
theorem place26 (a : Option Addr) (n c : Nat) (R : Nat → Int) (x : Int) (w : World) (hn : n ≤ 65536) (r0 : Row .u32 w a n R) :
    Calls Try.prog 26 #[.slice a n c, .int .u32 x] w fun e w' => ∃ r : Int, e = .returned (.int .i64 r) ∧ w' = w ∧ (r = -1 ∨ (0 ≤ r ∧ r < n ∧ R r.toNat = x)) ∧ (Asc R n → ∀ p : Nat, p < n → R p = x → r = p) := by
  have R0 : Hid (Row .u32 w a n R) := r0
  clear r0
  go_enter Try.func26, Try.ntmps26
  go_wp2
  go_loopg [5, 6] n (fun g l h wr => ∃ lo hi : Nat, w = wr ∧ l = .int .i64 lo ∧ h = .int .i64 hi ∧ lo ≤ hi ∧ hi ≤ n ∧ g = hi - lo ∧ Hid (Asc R n → ∀ p : Nat, p < n → R p = x → lo ≤ p ∧ p ≤ hi))
  case atStart => exact ⟨0, n, rfl, rfl, rfl, by omega, by omega, rfl, fun _ p hp _ => ⟨by omega, by omega⟩⟩
  case round =>
    obtain ⟨lo, hi, rfl, rfl, rfl, hlh, hhn, rfl, hinv⟩ := hrel
    by_cases hlt : lo < hi
    · obtain ⟨b, o, rfl, hb, hc⟩ := R0.out (lo + (hi - lo) / 2) (by omega)
      go_wp2
      · have hv : R (lo + (hi - lo) / 2) < x := by assumption
        go_roundg (hi - (lo + (hi - lo) / 2 + 1))
        case measure => omega
        case rel => exact ⟨lo + (hi - lo) / 2 + 1, hi, rfl, by go_num, rfl, by omega, hhn, rfl, fun ha p hp hx => ⟨by have := ha.lt (i := lo + (hi - lo) / 2) (j := p) (by omega) hp (by omega); omega, (hinv.out ha p hp hx).2⟩⟩
      · have hv : x ≤ R (lo + (hi - lo) / 2) := by assumption
        go_roundg (lo + (hi - lo) / 2 - lo)
        case measure => omega
        case rel =>
          refine ⟨lo, lo + (hi - lo) / 2, rfl, rfl, by go_num, by omega, by omega, rfl, fun ha p hp hx => ⟨(hinv.out ha p hp hx).1, ?_⟩⟩
          by_cases e : p ≤ lo + (hi - lo) / 2
          · exact e
          · have := ha (lo + (hi - lo) / 2) p (by omega) hp; omega
    · have hleh : ∀ p : Nat, lo ≤ p ∧ p ≤ hi → p = lo := fun p h => by omega
      have HL : Hid (∀ p : Nat, lo ≤ p ∧ p ≤ hi → p = lo) := hleh
      clear hleh
      by_cases hln : lo < n
      · obtain ⟨b, o, rfl, hb, hc⟩ := R0.out lo hln
        by_cases hx : R lo = x
        · have ex : (R lo == x) = true := beq_iff_eq.2 hx
          have HX : Hid (R lo = x) := hx
          clear hx
          go_wp2
          go_ret
          exact ⟨(lo : Int), rfl, rfl, .inr ⟨by omega, by omega, HX.out⟩, fun ha p hp h => by rw [HL.out p (hinv.out ha p hp h)]⟩
        · have ex : (R lo == x) = false := beq_eq_false_iff_ne.2 hx
          have HX : Hid (¬ R lo = x) := hx
          clear hx
          go_wp2
          go_ret
          exact ⟨-1, rfl, rfl, .inl rfl, fun ha p hp h => absurd (by rw [← HL.out p (hinv.out ha p hp h)]; exact h) HX.out⟩
      · go_wp2
        go_ret
        exact ⟨-1, rfl, rfl, .inl rfl, fun ha p hp h => by have := HL.out p (hinv.out ha p hp h); omega⟩

/-- l is a list of places: each element is one of R's numbers. -/
def Lies (R : Nat → Int) (n : Nat) (V : Nat → Int) (l : Nat) : Prop := ∀ i, i < l → ∃ p : Nat, p < n ∧ R p = V i

theorem Lies.step {R : Nat → Int} {n : Nat} {V : Nat → Int} {k : Nat} {r : Int} (h : Lies R n V k) (h0 : 0 ≤ r) (h1 : r = -1 ∨ (0 ≤ r ∧ r < n ∧ R r.toNat = V k)) : Lies R n V (k + 1) := by
  intro i hi
  by_cases e : i = k
  · subst e
    rcases h1 with h1 | ⟨_, h2, h3⟩
    · omega
    · exact ⟨r.toNat, by omega, h3⟩
  · exact h i (by omega)

set_option maxHeartbeats 800000 in
theorem latest14 (a0 a1 : Option Addr) (n c0 l c1 : Nat) (R V : Nat → Int) (w : World) (hn : n ≤ 65536) (hl : l ≤ 65536) (r0 : Row .u32 w a0 n R) (r1 : Row .u32 w a1 l V) :
    Calls Try.prog 14 #[.slice a0 n c0, .slice a1 l c1] w fun e w' => ∃ r, e = .returned (.bool r) ∧ (∃ q, w' = w.drewN q) ∧ (r = true → Lies R n V l) := by
  have R0 : Hid (Row .u32 w a0 n R) := r0
  have R1 : Hid (Row .u32 w a1 l V) := r1
  clear r0 r1
  go_enter Try.func14, Try.ntmps14
  go_wp2
  go_loopg [5] l (fun g i wr => ∃ k : Nat, ∃ q, wr = w.drewN q ∧ k ≤ l ∧ g = l - k ∧ i = .int .i64 k ∧ Hid (Lies R n V k))
  case atStart => exact ⟨0, 0, rfl, by omega, rfl, rfl, fun i hi => absurd hi (Nat.not_lt_zero _)⟩
  case round =>
    obtain ⟨k, q, rfl, hk, rfl, rfl, hL⟩ := hrel
    by_cases hlt : k < l
    · obtain ⟨b, o, rfl, hb, hc⟩ := R1.out k hlt
      have q1 : (k : Int) < (l : Int) := by omega
      have q2 : (0 : Int) ≤ (k : Int) := by omega
      go_wp2_with fail
      refine (place26 a0 n c0 R (V k) _ hn (R0.out.drewN _)).mono ?_
      rintro e w1 ⟨r, rfl, hw, h1, -⟩
      rw [hw]
      clear hw
      have H1 : Hid _ := h1
      clear h1
      by_cases hr : r < 0
      · go_wp2
        go_ret
        exact ⟨false, rfl, ⟨_, rfl⟩, by simp⟩
      · by_cases hk0 : k = 0
        · have d0 : decide ((0 : Int) < (k : Int)) = false := decide_eq_false (by omega)
          have d1 : decide (0 < k) = false := decide_eq_false (by omega)
          clear hk0
          go_wp2
          go_quiet (fail)
          go_wp2
          go_roundg (l - (k + 1))
          case measure => omega
          case rel => exact ⟨k + 1, _, rfl, by omega, rfl, by go_num, hL.out.step (by omega) H1.out⟩
        · have d0 : (0 : Int) < (k : Int) := by omega
          have d1 : 0 < k := by omega
          have q3 : (k : Int) - 1 < (l : Int) := by omega
          have q4 : (0 : Int) ≤ (k : Int) - 1 := by omega
          have qw : IntKind.i64.wrap ((k : Int) - 1) = (k : Int) - 1 := by rw [IntKind.wrap_i64]; omega
          obtain ⟨b', o', he, _, hc'⟩ := R1.out (k - 1) (by omega)
          obtain ⟨rfl, rfl⟩ : b = b' ∧ o = o' := by simpa using he
          have hc2 : w.cell? ⟨b, o + (k - 1), none⟩ = some (.int .u32 (V (k - 1))) := hc'
          clear he hc' hk0
          by_cases hge : V (k - 1) ≤ V k
          · go_wp2
            go_quiet (fail)
            go_wp2
            go_ret
            exact ⟨false, rfl, ⟨_, World.drewN_drewN _ _ _⟩, by simp⟩
          · go_wp2
            go_quiet (fail)
            go_wp2
            go_roundg (l - (k + 1))
            case measure => omega
            case rel => exact ⟨k + 1, _, rfl, by omega, rfl, by go_num, hL.out.step (by omega) H1.out⟩
    · go_wp2
      go_ret
      exact ⟨true, rfl, ⟨_, rfl⟩, fun _ i hi => hL.out i (by omega)⟩
/-- Two lists of numbers are one. -/
def Same (V : Nat → Int) (l : Nat) (V' : Nat → Int) (l' : Nat) : Prop := l = l' ∧ ∀ i, i < l → V i = V' i

set_option maxHeartbeats 800000 in
theorem same19 (a0 a1 : Option Addr) (l c0 l' c1 : Nat) (V V' : Nat → Int) (w : World) (hl : l ≤ 65536) (hl' : l' ≤ 65536) (r0 : Row .u32 w a0 l V) (r1 : Row .u32 w a1 l' V') :
    Calls Try.prog 19 #[.slice a0 l c0, .slice a1 l' c1] w fun e w' => ∃ r, e = .returned (.bool r) ∧ (∃ q, w' = w.drewN q) ∧ (r = true ↔ Same V l V' l') := by
  have R0 : Hid (Row .u32 w a0 l V) := r0
  have R1 : Hid (Row .u32 w a1 l' V') := r1
  clear r0 r1
  by_cases hll : l = l'
  · subst hll
    go_enter Try.func19, Try.ntmps19
    go_wp2
    go_loopg [5] l (fun g i wr => ∃ k : Nat, ∃ q, wr = w.drewN q ∧ k ≤ l ∧ g = l - k ∧ i = .int .i64 k ∧ Hid (∀ i, i < k → V i = V' i))
    case atStart => exact ⟨0, 0, rfl, by omega, rfl, rfl, fun i hi => absurd hi (Nat.not_lt_zero _)⟩
    case round =>
      obtain ⟨k, q, rfl, hk, rfl, rfl, hL⟩ := hrel
      by_cases hlt : k < l
      · obtain ⟨b, o, rfl, hb, hc⟩ := R0.out k hlt
        obtain ⟨b', o', rfl, hb', hc'⟩ := R1.out k hlt
        have q1 : (k : Int) < (l : Int) := by omega
        have q2 : (0 : Int) ≤ (k : Int) := by omega
        by_cases hv : V k = V' k
        · have ev : (V k != V' k) = false := by simpa using hv
          have HV : Hid (V k = V' k) := hv
          clear hv
          go_wp2
          go_quiet (fail)
          go_wp2
          go_roundg (l - (k + 1))
          case measure => omega
          case rel => exact ⟨k + 1, _, rfl, by omega, rfl, by go_num, all_step hL.out HV.out⟩
        · have ev : (V k != V' k) = true := by simpa using hv
          have HV : Hid (¬ V k = V' k) := hv
          clear hv
          go_wp2
          go_quiet (fail)
          go_wp2
          go_ret
          exact ⟨false, rfl, ⟨_, World.drewN_drewN _ _ _⟩, by simp, fun h => absurd (h.2 k hlt) HV.out⟩
      · go_wp2
        go_ret
        exact ⟨true, rfl, ⟨_, rfl⟩, fun _ => ⟨rfl, fun i hi => hL.out i (by omega)⟩, fun _ => rfl⟩
  · have en : ((l : Int) != (l' : Int)) = true := by rw [bne_iff_ne]; omega
    have HN : Hid (¬ l = l') := hll
    clear hll
    go_enter Try.func19, Try.ntmps19
    go_wp2
    go_ret
    exact ⟨false, rfl, ⟨0, rfl⟩, by simp, fun h => absurd h.1 HN.out⟩

set_option maxHeartbeats 800000 in
theorem equal33 (a0 a1 : Option Addr) (l c0 l' c1 : Nat) (V V' : Nat → Int) (w : World) (hl : l ≤ 65536) (hl' : l' ≤ 65536) (r0 : Row .u32 w a0 l V) (r1 : Row .u32 w a1 l' V') :
    Calls Try.prog 33 #[.slice a0 l c0, .slice a1 l' c1] w fun e w' => ∃ r, e = .returned (.bool r) ∧ (∃ q, w' = w.drewN q) ∧ (r = true ↔ Same V l V' l') := by
  have R0 : Hid (Row .u32 w a0 l V) := r0
  have R1 : Hid (Row .u32 w a1 l' V') := r1
  clear r0 r1
  by_cases hll : l = l'
  · subst hll
    go_enter Try.func33, Try.ntmps33
    go_wp2
    go_loopg [13] l (fun g i wr => ∃ k : Nat, ∃ q, wr = w.drewN q ∧ k ≤ l ∧ g = l - k ∧ i = .int .i64 k ∧ Hid (∀ i, i < k → V i = V' i))
    case atStart => exact ⟨0, 0, rfl, by omega, rfl, rfl, fun i hi => absurd hi (Nat.not_lt_zero _)⟩
    case round =>
      obtain ⟨k, q, rfl, hk, rfl, rfl, hL⟩ := hrel
      by_cases hlt : k < l
      · obtain ⟨b, o, rfl, hb, hc⟩ := R0.out k hlt
        obtain ⟨b', o', rfl, hb', hc'⟩ := R1.out k hlt
        have q1 : (k : Int) < (l : Int) := by omega
        have q2 : (0 : Int) ≤ (k : Int) := by omega
        by_cases hv : V k = V' k
        · have ev : (V k != V' k) = false := by simpa using hv
          have HV : Hid (V k = V' k) := hv
          clear hv
          go_wp2
          go_quiet (fail)
          go_wp2
          go_roundg (l - (k + 1))
          case measure => omega
          case rel => exact ⟨k + 1, _, rfl, by omega, rfl, by go_num, all_step hL.out HV.out⟩
        · have ev : (V k != V' k) = true := by simpa using hv
          have HV : Hid (¬ V k = V' k) := hv
          clear hv
          go_wp2
          go_quiet (fail)
          go_wp2
          go_ret
          exact ⟨false, rfl, ⟨_, World.drewN_drewN _ _ _⟩, by simp, fun h => absurd (h.2 k hlt) HV.out⟩
      · go_wp2
        go_ret
        exact ⟨true, rfl, ⟨_, rfl⟩, fun _ => ⟨rfl, fun i hi => hL.out i (by omega)⟩, fun _ => rfl⟩
  · have en : ((l : Int) != (l' : Int)) = true := by rw [bne_iff_ne]; omega
    have HN : Hid (¬ l = l') := hll
    clear hll
    go_enter Try.func33, Try.ntmps33
    go_wp2
    go_ret
    exact ⟨false, rfl, ⟨0, rfl⟩, by simp, fun h => absurd h.1 HN.out⟩

theorem less36 (x y : Int) (w : World) : Calls Try.prog 36 #[.int .u32 x, .int .u32 y] w fun e w' => e = .returned (.bool (decide (x < y))) ∧ w' = w := by
  have e1 : (x != x) = false := by simp
  go_enter Try.func36, Try.ntmps36
  go_wp2
  go_ret
  exact ⟨by simp, rfl⟩

end Go.Proofs.Qxb6604360a
