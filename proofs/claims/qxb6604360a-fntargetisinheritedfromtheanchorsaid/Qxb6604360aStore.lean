import Derived.Test.Qxb6604360aRead
import Derived.Test.Qxb6604360aBuild
/- THE STORE AS IT IS READ: what zzBuildStore leaves, and ZZtarget (10) over it. -/
namespace Go.Proofs.Qxb6604360a
open Go.RowKit Go.Deep
set_option linter.unusedVariables false

/-- The store behind block sb holds n changes (shapes S, parts P) and m count parts (targets T). -/
structure StoreAt (w : World) (sb n m : Nat) (S P T : Nat → Int) : Prop where
  ch : ∀ i, i < n → ∃ cb nch ccap kb, i / 1024 < nch ∧ w.cell? ⟨sb, 0, none⟩ = some (.slice (some ⟨cb, 0, none⟩) nch ccap) ∧ w.cell? ⟨cb, i / 1024, none⟩ = some (.slice (some ⟨kb, 0, none⟩) 1024 1024) ∧
    w.cell? ⟨kb, i % 1024 * 11 + 9, none⟩ = some (.int .u8 (S i)) ∧ w.cell? ⟨kb, i % 1024 * 11 + 10, none⟩ = some (.int .u32 (P i))
  ct : ∀ i, i < m → ∃ cb nch ccap kb, i / 1024 < nch ∧ w.cell? ⟨sb, 29, none⟩ = some (.slice (some ⟨cb, 0, none⟩) nch ccap) ∧ w.cell? ⟨cb, i / 1024, none⟩ = some (.slice (some ⟨kb, 0, none⟩) 1024 1024) ∧
    w.cell? ⟨kb, i % 1024 * 2, none⟩ = some (.int .u32 (T i))

theorem StoreAt.drewN {w : World} {sb n m : Nat} {S P T : Nat → Int} (h : StoreAt w sb n m S P T) (k : Nat) : StoreAt (w.drewN k) sb n m S P T := ⟨h.ch, h.ct⟩

theorem built (a0 a1 a2 a3 : Option Addr) (n c0 c1 l2 c2 m c3 : Nat) (S P A T : Nat → Int) (w : World) (hn : n ≤ 65536) (hm : m ≤ 65536) (hl2 : l2 ≤ 65536)
    (r0 : Row .u8 w a0 n S) (r1 : Row .u32 w a1 n P) (r2 : Row .u32 w a2 l2 A) (r3 : Row .u32 w a3 m T) :
    Calls Try.prog 9 #[.slice a0 n c0, .slice a1 n c1, .slice a2 l2 c2, .slice a3 m c3] w fun e w' => ∃ sb, e = .returned (.pointer (some ⟨sb, 0, none⟩)) ∧ Below w.heap.size w w' ∧ StoreAt w' sb n m S P T := by
  refine (build9 a0 a1 a2 a3 n c0 c1 l2 c2 m c3 S P A T w hn hm hl2 r0 r1 r2 r3).mono fun e w' h => ?_
  obtain ⟨sb, v1, v2, q1, q2, B2, K1, K2, he, hb, e1, e2, hq1, hq2, t1, t2⟩ := h
  refine ⟨sb, he, hb, fun i hi => ?_, fun i hi => ?_⟩
  · obtain ⟨cb, ccap, F, rfl, hc, hF, hG⟩ := t1.read (i := i) (by omega)
    obtain ⟨g1, g2⟩ := hG (i % 1024) (by omega) (by omega)
    rw [show 1024 * (i / 1024) + i % 1024 = i by omega] at g1 g2
    exact ⟨cb, q1, ccap, K1 (i / 1024), by omega, e1, hc, by rw [hF.cell (by omega), g1], by rw [hF.cell (by omega), g2]⟩
  · obtain ⟨cb, ccap, F, rfl, hc, hF, hG⟩ := t2.read (i := i) (by omega)
    have g1 := hG (i % 1024) (by omega) (by omega)
    rw [show 1024 * (i / 1024) + i % 1024 = i by omega] at g1
    exact ⟨cb, q2, ccap, K2 (i / 1024), by omega, e2, hc, by rw [hF.cell (by omega), g1]⟩

/-- What target answers. -/
def tgtF (S P T : Nat → Int) (i : Nat) : Int := if S i < 3 then 0 else if S i ≤ 6 then (i : Int) + 1 else T (P i).toNat

theorem idx (i : Nat) : (((i : Int) + 1 - 1) / 1024).toNat = i / 1024 ∧ (((i : Int) + 1 - 1) % 1024).toNat = i % 1024 := by omega
theorem idx' (p : Int) (h : 0 ≤ p) : (p / 1024).toNat = p.toNat / 1024 ∧ (p % 1024).toNat = p.toNat % 1024 := by omega

/-- target (25) at the change i + 1. -/
theorem tgt25 (sb n m i : Nat) (S P T : Nat → Int) (w : World) (hn : n ≤ 65536) (hm : m ≤ 65536) (h : StoreAt w sb n m S P T) (hi : i < n) (h7 : S i ≤ 7) (hp0 : 0 ≤ P i) (hp : S i = 7 → P i < m) :
    Calls Try.prog 25 #[.pointer (some ⟨sb, 0, none⟩), .int .u32 ((i : Int) + 1)] w fun e w' => e = .returned (.int .u32 (tgtF S P T i)) ∧ ∃ k, w' = w.drewN k := by
  obtain ⟨cb, nch, ccap, kb, hq, c1, c2, c3, c4⟩ := h.ch i hi
  obtain ⟨x1, x2⟩ := idx i
  by_cases h3 : S i < 3
  · refine (tgt_reg sb cb kb nch ccap _ (S i) w (by omega) (by omega) (by omega) c1 (by rw [x1]; exact c2) (by rw [x2]; exact c3) h3).mono fun e w' ⟨he, hw⟩ => ⟨?_, 0, hw⟩
    rw [he, tgtF, if_pos h3]
  · by_cases h6 : S i ≤ 6
    · refine (tgt_own sb cb kb nch ccap _ (S i) w (by omega) (by omega) (by omega) c1 (by rw [x1]; exact c2) (by rw [x2]; exact c3) (by omega) h6).mono fun e w' ⟨he, hw⟩ => ⟨?_, 0, hw⟩
      rw [he, tgtF, if_neg h3, if_pos h6]
    · have e7 : S i = 7 := by omega
      have hpm := hp e7
      obtain ⟨db, mch, dcap, lb, dq, d1, d2, d3⟩ := h.ct (P i).toNat (by omega)
      obtain ⟨y1, y2⟩ := idx' (P i) hp0
      refine (tgt_cnt sb cb kb nch ccap db lb mch dcap _ (P i) (T (P i).toNat) w (by omega) (by omega) (by omega) c1 (by rw [x1]; exact c2) (by rw [x2, ← e7]; exact c3) (by rw [x2]; exact c4) hp0 (by omega) (by omega) d1 (by rw [y1]; exact d2) (by rw [y2]; exact d3)).mono fun e w' ⟨he, hw⟩ => ⟨?_, hw⟩
      rw [he, tgtF, if_neg h3, if_neg h6]

theorem tgt10 (sb n m i : Nat) (S P T : Nat → Int) (w : World) (hn : n ≤ 65536) (hm : m ≤ 65536) (h : StoreAt w sb n m S P T) (hi : i < n) (h7 : S i ≤ 7) (hp0 : 0 ≤ P i) (hp : S i = 7 → P i < m) :
    Calls Try.prog 10 #[.pointer (some ⟨sb, 0, none⟩), .int .u32 ((i : Int) + 1)] w fun e w' => e = .returned (.int .u32 (tgtF S P T i)) ∧ ∃ k, w' = w.drewN k := by
  have H : Hid (StoreAt w sb n m S P T) := h
  have H7 : Hid (S i = 7 → P i < m) := hp
  clear h hp
  go_enter Try.func10, Try.ntmps10
  go_wp2_with fail
  refine (tgt25 sb n m i S P T _ hn hm H.out hi h7 hp0 H7.out).mono ?_
  rintro e w' ⟨rfl, k, rfl⟩
  go_wp2
  go_ret
  exact ⟨rfl, _, rfl⟩
end Go.Proofs.Qxb6604360a
