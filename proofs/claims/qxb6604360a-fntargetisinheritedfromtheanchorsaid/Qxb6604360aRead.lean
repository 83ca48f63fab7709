import Derived.Test.Qxb6604360aProg
import Derived.WalkKit
import Derived.WalkSpells
import Derived.WalkLawsBesides
import Derived.Deep.QuietTactic
import Derived.BigQuiet
/- THE READERS: chunked.at (34: changes, 31: counts), changeStore.at (30), target (25), ZZtarget (10). Each only reads; target draws where it reads a count's part. -/
namespace Go.Proofs.Qxb6604360a
open Go.RowKit

theorem at34 (sb cb kb nch ccap : Nat) (i : Int) (w : World) (h0 : 0 ≤ i) (h1 : i ≤ 65535) (hq : i / 1024 < (nch : Int))
    (c1 : w.cell? ⟨sb, 0, none⟩ = some (.slice (some ⟨cb, 0, none⟩) nch ccap))
    (c2 : w.cell? ⟨cb, (i / 1024).toNat, none⟩ = some (.slice (some ⟨kb, 0, none⟩) 1024 1024)) :
    Calls Try.prog 34 #[.pointer (some ⟨sb, 0, none⟩), .int .i64 i] w fun e w' => e = .returned (.pointer (some ⟨kb, (i % 1024).toNat * 11, none⟩)) ∧ w' = w := by
  go_enter Try.func34, Try.ntmps34
  go_wp2
  go_ret
  exact ⟨rfl, rfl⟩

theorem at31 (sb cb kb nch ccap : Nat) (i : Int) (w : World) (h0 : 0 ≤ i) (h1 : i ≤ 65535) (hq : i / 1024 < (nch : Int))
    (c1 : w.cell? ⟨sb, 29, none⟩ = some (.slice (some ⟨cb, 0, none⟩) nch ccap))
    (c2 : w.cell? ⟨cb, (i / 1024).toNat, none⟩ = some (.slice (some ⟨kb, 0, none⟩) 1024 1024)) :
    Calls Try.prog 31 #[.pointer (some ⟨sb, 29, none⟩), .int .i64 i] w fun e w' => e = .returned (.pointer (some ⟨kb, (i % 1024).toNat * 2, none⟩)) ∧ w' = w := by
  go_enter Try.func31, Try.ntmps31
  go_wp2
  go_ret
  exact ⟨rfl, rfl⟩

theorem at30 (sb cb kb nch ccap : Nat) (c : Int) (w : World) (h0 : 1 ≤ c) (h1 : c ≤ 65536) (hq : (c - 1) / 1024 < (nch : Int))
    (c1 : w.cell? ⟨sb, 0, none⟩ = some (.slice (some ⟨cb, 0, none⟩) nch ccap))
    (c2 : w.cell? ⟨cb, ((c - 1) / 1024).toNat, none⟩ = some (.slice (some ⟨kb, 0, none⟩) 1024 1024)) :
    Calls Try.prog 30 #[.pointer (some ⟨sb, 0, none⟩), .int .u32 c] w fun e w' => e = .returned (.pointer (some ⟨kb, ((c - 1) % 1024).toNat * 11, none⟩)) ∧ w' = w := by
  go_enter Try.func30, Try.ntmps30
  go_wp2_with (go_at_call 34; refine (at34 sb cb kb nch ccap _ _ (by omega) (by omega) hq c1 c2).mono ?_; rintro e w' ⟨rfl, rfl⟩)
  go_ret
  exact ⟨rfl, rfl⟩

theorem tgt_reg (sb cb kb nch ccap : Nat) (c s : Int) (w : World) (h0 : 1 ≤ c) (h1 : c ≤ 65536) (hq : (c - 1) / 1024 < (nch : Int))
    (c1 : w.cell? ⟨sb, 0, none⟩ = some (.slice (some ⟨cb, 0, none⟩) nch ccap))
    (c2 : w.cell? ⟨cb, ((c - 1) / 1024).toNat, none⟩ = some (.slice (some ⟨kb, 0, none⟩) 1024 1024))
    (c3 : w.cell? ⟨kb, ((c - 1) % 1024).toNat * 11 + 9, none⟩ = some (.int .u8 s)) (hs : s < 3) :
    Calls Try.prog 25 #[.pointer (some ⟨sb, 0, none⟩), .int .u32 c] w fun e w' => e = .returned (.int .u32 0) ∧ w' = w := by
  have e3 : (s == 3) = false := beq_eq_false_iff_ne.2 (by omega)
  have e4 : (s == 4) = false := beq_eq_false_iff_ne.2 (by omega)
  have e5 : (s == 5) = false := beq_eq_false_iff_ne.2 (by omega)
  have e6 : (s == 6) = false := beq_eq_false_iff_ne.2 (by omega)
  have e7 : (s == 7) = false := beq_eq_false_iff_ne.2 (by omega)
  go_enter Try.func25, Try.ntmps25
  go_wp2_with (go_at_call 30; refine (at30 sb cb kb nch ccap _ _ (by omega) (by omega) hq c1 c2).mono ?_; rintro e w' ⟨rfl, rfl⟩)
  go_ret
  exact ⟨rfl, rfl⟩

theorem tgt_own (sb cb kb nch ccap : Nat) (c s : Int) (w : World) (h0 : 1 ≤ c) (h1 : c ≤ 65536) (hq : (c - 1) / 1024 < (nch : Int))
    (c1 : w.cell? ⟨sb, 0, none⟩ = some (.slice (some ⟨cb, 0, none⟩) nch ccap))
    (c2 : w.cell? ⟨cb, ((c - 1) / 1024).toNat, none⟩ = some (.slice (some ⟨kb, 0, none⟩) 1024 1024))
    (c3 : w.cell? ⟨kb, ((c - 1) % 1024).toNat * 11 + 9, none⟩ = some (.int .u8 s)) (hs : 3 ≤ s) (hs' : s ≤ 6) :
    Calls Try.prog 25 #[.pointer (some ⟨sb, 0, none⟩), .int .u32 c] w fun e w' => e = .returned (.int .u32 c) ∧ w' = w := by
  have e7 : (s == 7) = false := beq_eq_false_iff_ne.2 (by omega)
  rcases (show s = 3 ∨ s = 4 ∨ s = 5 ∨ s = 6 by omega) with rfl | rfl | rfl | rfl
  all_goals
    clear hs hs' e7
    go_enter Try.func25, Try.ntmps25
    go_wp2_with (go_at_call 30; refine (at30 sb cb kb nch ccap _ _ (by omega) (by omega) hq c1 c2).mono ?_; rintro e w' ⟨rfl, rfl⟩)
    go_ret
    exact ⟨rfl, rfl⟩

theorem tgt_cnt (sb cb kb nch ccap db lb mch dcap : Nat) (c p t : Int) (w : World) (h0 : 1 ≤ c) (h1 : c ≤ 65536) (hq : (c - 1) / 1024 < (nch : Int))
    (c1 : w.cell? ⟨sb, 0, none⟩ = some (.slice (some ⟨cb, 0, none⟩) nch ccap))
    (c2 : w.cell? ⟨cb, ((c - 1) / 1024).toNat, none⟩ = some (.slice (some ⟨kb, 0, none⟩) 1024 1024))
    (c3 : w.cell? ⟨kb, ((c - 1) % 1024).toNat * 11 + 9, none⟩ = some (.int .u8 7))
    (c4 : w.cell? ⟨kb, ((c - 1) % 1024).toNat * 11 + 10, none⟩ = some (.int .u32 p))
    (p0 : 0 ≤ p) (p1 : p ≤ 65535) (pq : p / 1024 < (mch : Int))
    (d1 : w.cell? ⟨sb, 29, none⟩ = some (.slice (some ⟨db, 0, none⟩) mch dcap))
    (d2 : w.cell? ⟨db, (p / 1024).toNat, none⟩ = some (.slice (some ⟨lb, 0, none⟩) 1024 1024))
    (d3 : w.cell? ⟨lb, (p % 1024).toNat * 2, none⟩ = some (.int .u32 t)) :
    Calls Try.prog 25 #[.pointer (some ⟨sb, 0, none⟩), .int .u32 c] w fun e w' => e = .returned (.int .u32 t) ∧ ∃ n, w' = w.drewN n := by
  go_enter Try.func25, Try.ntmps25
  go_wp2_with (go_at_call 30; refine (at30 sb cb kb nch ccap _ _ (by omega) (by omega) hq c1 c2).mono ?_; rintro e w' ⟨rfl, rfl⟩)
  go_quiet ((go_at_call 31; exact Calls.quiet_of_same (at31 sb db lb mch dcap _ _ (by omega) (by omega) pq (by simp [d1]) (by simp [d2]))))
  go_wp2
  go_ret
  exact ⟨rfl, _, rfl⟩
end Go.Proofs.Qxb6604360a
