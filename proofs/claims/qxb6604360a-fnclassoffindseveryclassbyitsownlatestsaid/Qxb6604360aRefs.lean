import Derived.Test.Qxb6604360aCls
import Derived.Lib.SliceRun
namespace Go.Proofs.Qxb6604360a
open Go.RowKit Go.Deep
set_option linter.unusedVariables false

set_option maxHeartbeats 800000 in
theorem bins35 (a : Option Addr) (n c : Nat) (R : Nat → Int) (x : Int) (p : Nat) (w : World) (hn : n ≤ 65536) (r0 : Row .u32 w a n R) (ha : Asc R n) (hp : p < n) (hx : R p = x) :
    Calls Try.prog 35 #[.slice a n c, .int .u32 x] w fun e w' => e = .returned (.tuple #[.int .i64 p, .bool true]) ∧ w' = w := by
  have R0 : Hid (Row .u32 w a n R) := r0
  have HA : Hid (Asc R n) := ha
  have HX : Hid (R p = x) := hx
  clear r0 ha hx
  go_enter Try.func35, Try.ntmps35
  go_wp2
  go_loopg [7, 8] n (fun g l h wr => ∃ lo hi : Nat, w = wr ∧ l = .int .i64 lo ∧ h = .int .i64 hi ∧ lo ≤ hi ∧ hi ≤ n ∧ g = hi - lo ∧ lo ≤ p ∧ p ≤ hi)
  case atStart => exact ⟨0, n, rfl, rfl, rfl, by omega, by omega, rfl, by omega, by omega⟩
  case round =>
    obtain ⟨lo, hi, rfl, rfl, rfl, hlh, hhn, rfl, hlp, hph⟩ := hrel
    by_cases hlt : lo < hi
    · obtain ⟨b, o, rfl, hb, hc⟩ := R0.out ((lo + hi) / 2) (by omega)
      go_wp2_with (go_at_call 36; refine (less36 _ _ _).mono ?_; rintro e w' ⟨rfl, rfl⟩)
      · have hv : R ((lo + hi) / 2) < x := by assumption
        have hlo : (lo + hi) / 2 < p := HA.out.lt (by omega) hp (by rw [HX.out]; exact hv)
        go_roundg (hi - ((lo + hi) / 2 + 1))
        case measure => omega
        case rel => exact ⟨(lo + hi) / 2 + 1, hi, rfl, by go_num, rfl, by omega, hhn, rfl, by omega, hph⟩
      · have hv : x ≤ R ((lo + hi) / 2) := by assumption
        have hle : p ≤ (lo + hi) / 2 := by
          by_cases e : p ≤ (lo + hi) / 2
          · exact e
          · have := HA.out ((lo + hi) / 2) p (by omega) hp; have := HX.out; omega
        go_roundg ((lo + hi) / 2 - lo)
        case measure => omega
        case rel => exact ⟨lo, (lo + hi) / 2, rfl, rfl, by go_num, by omega, by omega, rfl, hlp, hle⟩
    · obtain rfl : lo = p := by omega
      obtain ⟨b, o, rfl, hb, hc⟩ := R0.out lo hp
      rw [HX.out] at hc
      have ex : (x == x) = true := by simp
      go_wp2
      go_ret2
      exact ⟨rfl, rfl⟩

theorem Try.info28 : (Try.prog.info? 28).map (fun i => (i.zero, i.size, i.bytes)) = some (some (.int .u32 0), 1, 4) := by kernel_rfl

/-- As Row, and the cells lie from block H on. -/
def RowN (H : Nat) (k : IntKind) (w : World) (a : Option Addr) (n : Nat) (Z : Nat → Int) : Prop :=
  ∀ i, i < n → ∃ b o, a = some ⟨b, o, none⟩ ∧ H ≤ b ∧ b < w.heap.size ∧ w.cell? ⟨b, o + i, none⟩ = some (.int k (Z i))

theorem RowN.row {H : Nat} {k : IntKind} {w : World} {a : Option Addr} {n : Nat} {Z : Nat → Int} (h : RowN H k w a n Z) : Row k w a n Z := fun i hi => by
  obtain ⟨b, o, ha, _, hlt, hc⟩ := h i hi
  exact ⟨b, o, ha, hlt, hc⟩

theorem RowN.below {H : Nat} {k : IntKind} {w w' : World} {a : Option Addr} {n : Nat} {Z : Nat → Int} (h : RowN H k w a n Z) (hb : Below w.heap.size w w') : RowN H k w' a n Z := fun i hi => by
  obtain ⟨b, o, ha, hH, hlt, hc⟩ := h i hi
  exact ⟨b, o, ha, hH, Nat.lt_of_lt_of_le hlt hb.size, by rw [hb.cell (p := ⟨b, o + i, none⟩) hlt]; exact hc⟩

theorem RowN.mono {H H' : Nat} {k : IntKind} {w : World} {a : Option Addr} {n : Nat} {Z : Nat → Int} (h : RowN H k w a n Z) (hH : H' ≤ H) : RowN H' k w a n Z := fun i hi => by
  obtain ⟨b, o, ha, h1, hlt, hc⟩ := h i hi
  exact ⟨b, o, ha, Nat.le_trans hH h1, hlt, hc⟩

theorem put_row {w : World} {H t n k : Nat} {f X : Nat → Int} (h : w.rowIs H t n (fun j => .int .u32 (f j))) (hF : ∀ i, i < k → f i = X i) :
    ∃ f' : Nat → Int, (w.setCell ⟨H, k, none⟩ (.int .u32 (X k))).rowIs H t n (fun j => .int .u32 (f' j)) ∧ Hid (∀ i, i < k + 1 → f' i = X i) := by
  refine ⟨fun j => if j = k then X k else f j, (h.set k (.int .u32 (X k))).congr (fun j _ => ?_), fun i hi => ?_⟩
  · by_cases e : j = k <;> simp [e]
  · by_cases e : i = k
    · simp [e]
    · simp only [if_neg e]; exact hF i (by omega)

set_option maxRecDepth 100000 in
set_option maxHeartbeats 800000 in
theorem refs18 (a : Option Addr) (n c : Nat) (X : Nat → Int) (w : World) (hn : n ≤ 65536) (hnil : a = none → n = 0 ∧ c = 0) (r0 : Row .u32 w a n X) :
    Calls Try.prog 18 #[.slice a n c] w fun e w' => ∃ a' c', e = .returned (.slice a' n c') ∧ RowN w.heap.size .u32 w' a' n X ∧ Below w.heap.size w w' := by
  have R0 : Hid (Row .u32 w a n X) := r0
  clear r0
  have hmk := run_make_row' (P := Try.prog) 40 28 (.int .u32 0) 4 Try.underlying40 Try.info28 rfl .i64 .i64 n (by omega) (by omega)
  have q23 : ∀ (w : World) (a : Option Addr) (n c n' c' : Nat), (binOp .eql 23 (.slice a n c) (.slice none n' c')).run Try.prog w = .ok (.bool a.isNone) w := fun w a n c n' c' => Lib.run_eql_slice_nil w _ _ a n c n' c' Try.underlying23
  cases a with
  | none =>
    obtain ⟨rfl, rfl⟩ := hnil rfl
    go_enter Try.func18, Try.ntmps18
    go_wp2
    go_ret
    exact ⟨none, ⟨_, rfl⟩, fun i hi => absurd hi (Nat.not_lt_zero _), Below.refl _ _⟩
  | some ad =>
    clear hnil
    go_enter Try.func18, Try.ntmps18
    go_wp2
    clear hmk q23
    go_loopg [4] n (fun g i wr => ∃ k : Nat, k ≤ n ∧ g = n - k ∧ i = .int .i64 k ∧ Below w.heap.size w wr ∧ ∃ f : Nat → Int, wr.rowIs w.heap.size 28 n (fun j => .int .u32 (f j)) ∧ Hid (∀ i, i < k → f i = X i))
    case atStart => exact ⟨0, by omega, rfl, rfl, (Below.refl _ _).alloc (Nat.le_refl _) _, fun _ => 0, World.rowIs_made w (.int .u32 0) n 28, fun i hi => absurd hi (Nat.not_lt_zero _)⟩
    case round =>
      obtain ⟨k, hk, rfl, rfl, hb, f, hf, hF⟩ := hrel
      by_cases hlt : k < n
      · obtain ⟨b, o, he, hb0, hc⟩ := R0.out k hlt
        obtain rfl : ad = ⟨b, o, none⟩ := by simpa using he
        have g0 : wr.cell? ⟨b, o + k, none⟩ = some (.int .u32 (X k)) := (hb.cell (p := ⟨b, o + k, none⟩) hb0).trans hc
        have g1 : wr.cell? ⟨w.heap.size, k, none⟩ = some (.int .u32 (f k)) := hf.cell hlt
        have g2 : wr.frozen? ⟨w.heap.size, k, none⟩ = false := hf.frozen _
        have HB : Hid (Below w.heap.size w wr) := hb
        have HF : Hid (wr.rowIs w.heap.size 28 n (fun j => .int .u32 (f j))) := hf
        clear he hc hb hf
        go_wp2
        go_roundg (n - (k + 1))
        case measure => omega
        case rel =>
          obtain ⟨f', hf', hF'⟩ := put_row HF.out hF.out
          exact ⟨k + 1, by omega, rfl, by go_num, HB.out.setCell (p := ⟨w.heap.size, k, none⟩) (Nat.le_refl _) _, f', hf', hF'⟩
      · go_wp2
        go_ret
        exact ⟨_, _, rfl, fun i hi => ⟨w.heap.size, 0, rfl, Nat.le_refl _, hf.lt, by rw [Nat.zero_add, hf.cell hi, hF.out i (by omega)]⟩, hb⟩
end Go.Proofs.Qxb6604360a
