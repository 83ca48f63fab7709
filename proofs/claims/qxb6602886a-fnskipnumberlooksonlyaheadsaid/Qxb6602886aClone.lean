import Derived.Test.Qxb6602886aSkipB
import Derived.Lib.SliceRun
namespace Go.Proofs.Qxb6602886a
open Go.RowKit Go.Deep
set_option linter.unusedVariables false

theorem Try.info5 : (Try.prog.info? 5).map (fun i => (i.zero, i.size, i.bytes)) = some (some (.int .u8 0), 1, 1) := by kernel_rfl

/-- A row that came in: it lies below. -/
def RowI (w : World) (a : Option Addr) (n : Nat) (X : Nat → Int) : Prop :=
  ∀ i, i < n → ∃ b o, a = some ⟨b, o, none⟩ ∧ b < w.heap.size ∧ w.cell? ⟨b, o + i, none⟩ = some (.int .u8 (X i))

theorem put_row {w : World} {H t n k : Nat} {f X : Nat → Int} (h : w.rowIs H t n (fun j => .int .u8 (f j))) (hF : ∀ i, i < k → f i = X i) :
    ∃ f' : Nat → Int, (w.setCell ⟨H, k, none⟩ (.int .u8 (X k))).rowIs H t n (fun j => .int .u8 (f' j)) ∧ Hid (∀ i, i < k + 1 → f' i = X i) := by
  refine ⟨fun j => if j = k then X k else f j, (h.set k (.int .u8 (X k))).congr (fun j _ => ?_), fun i hi => ?_⟩
  · by_cases e : j = k <;> simp [e]
  · by_cases e : i = k
    · simp [e]
    · simp only [if_neg e]; exact hF i (by omega)

set_option maxRecDepth 100000 in
set_option maxHeartbeats 800000 in
theorem clone10 (a : Option Addr) (n c : Nat) (X : Nat → Int) (w : World) (hn : n ≤ 65536) (hnil : a = none → n = 0 ∧ c = 0) (r0 : RowI w a n X) :
    Calls Try.prog 10 #[.slice a n c] w fun e w' => Below w.heap.size w w' ∧ ((a = none ∧ n = 0 ∧ e = .returned (.slice none 0 0)) ∨ ∃ g, g < w'.heap.size ∧ e = .returned (.slice (some ⟨g, 0, none⟩) n n) ∧ ∀ i, i < n → w'.cell? ⟨g, i, none⟩ = some (.int .u8 (X i))) := by
  have R0 : Hid (RowI w a n X) := r0
  clear r0
  have hmk := run_make_row' (P := Try.prog) 22 5 (.int .u8 0) 1 Try.underlying22 Try.info5 rfl .i64 .i64 n (by omega) (by omega)
  have q22 : ∀ (w : World) (a : Option Addr) (n c n' c' : Nat), (binOp .eql 22 (.slice a n c) (.slice none n' c')).run Try.prog w = .ok (.bool a.isNone) w := fun w a n c n' c' => Lib.run_eql_slice_nil w _ _ a n c n' c' Try.underlying22
  cases a with
  | none =>
    obtain ⟨rfl, rfl⟩ := hnil rfl
    go_enter Try.func10, Try.ntmps10
    go_wp2
    go_ret
    exact ⟨Below.refl _ _, .inl rfl⟩
  | some ad =>
    clear hnil
    go_enter Try.func10, Try.ntmps10
    go_wp2
    clear hmk q22
    go_loopg [4] n (fun g i wr => ∃ k : Nat, k ≤ n ∧ g = n - k ∧ i = .int .i64 k ∧ Below w.heap.size w wr ∧ ∃ f : Nat → Int, wr.rowIs w.heap.size 5 n (fun j => .int .u8 (f j)) ∧ Hid (∀ i, i < k → f i = X i))
    case atStart => exact ⟨0, by omega, rfl, rfl, (Below.refl _ _).alloc (Nat.le_refl _) _, fun _ => 0, World.rowIs_made w (.int .u8 0) n 5, fun i hi => absurd hi (Nat.not_lt_zero _)⟩
    case round =>
      obtain ⟨k, hk, rfl, rfl, hb, f, hf, hF⟩ := hrel
      by_cases hlt : k < n
      · obtain ⟨b, o, he, hb0, hc⟩ := R0.out k hlt
        obtain rfl : ad = ⟨b, o, none⟩ := by simpa using he
        have g0 : wr.cell? ⟨b, o + k, none⟩ = some (.int .u8 (X k)) := (hb.cell (p := ⟨b, o + k, none⟩) hb0).trans hc
        have g1 : wr.cell? ⟨w.heap.size, k, none⟩ = some (.int .u8 (f k)) := hf.cell hlt
        have g2 : wr.frozen? ⟨w.heap.size, k, none⟩ = false := hf.frozen _
        have HB : Hid (Below w.heap.size w wr) := hb
        have HF : Hid (wr.rowIs w.heap.size 5 n (fun j => .int .u8 (f j))) := hf
        clear he hc hb hf
        go_wp2
        go_roundg (n - (k + 1))
        case measure => omega
        case rel =>
          obtain ⟨f', hf', hF'⟩ := put_row HF.out hF.out
          exact ⟨k + 1, by omega, rfl, by go_num, HB.out.setCell (p := ⟨w.heap.size, k, none⟩) (Nat.le_refl _) _, f', hf', hF'⟩
      · go_wp2
        go_ret
        exact ⟨hb, .inr ⟨w.heap.size, hf.lt, rfl, fun i hi => by rw [hf.cell hi, hF.out i (by omega)]⟩⟩

theorem bytes21 (a0 : Option Addr) (n0 c0 : Nat) (a1 : Option Addr) (n1 c1 : Nat) (i : Int) (bad : Bool) (w : World) :
    Calls Try.prog 21 #[.slice a0 n0 c0, .slice a1 n1 c1, .int .i64 i, .bool bad] w fun e w' => ∃ q : Bool, e = .returned (.bool q) ∧ w' = w := by
  go_enter Try.func21, Try.ntmps21
  go_wp2
  all_goals
    go_ret
    exact ⟨_, rfl, rfl⟩
end Go.Proofs.Qxb6602886a
