import Derived.Test.Qxb6602886aProg
import Derived.WalkKit
import Derived.WalkSpells
import Derived.WalkLawsBesides
import Derived.Deep.LoopGhost
import Derived.Deep.OwnRows
import Derived.Deep.QuietTactic
import Derived.BigQuiet
import Derived.Deep.RegionHeld3
namespace Go.Proofs.Qxb6602886a
open Go.RowKit Go.Deep
set_option linter.unusedVariables false

/-- The first n elements behind the address a are the bytes B. -/
def RowB (w : World) (a : Option Addr) (n : Nat) (B : Nat → Int) : Prop :=
  ∀ i, i < n → ∃ b o, a = some ⟨b, o, none⟩ ∧ w.cell? ⟨b, o + i, none⟩ = some (.int .u8 (B i))

/-- w' is w with the one cell of block b turned. -/
structure WPut (w w' : World) (b : Nat) (v : Value) (t : TypeId) : Prop where
  os : w'.os = w.os
  tape : w'.tape = w.tape
  output : w'.output = w.output
  size : w'.heap.size = w.heap.size
  cell : w'.heap[b]? = some (.cells #[v] t (0, 0))
  other : ∀ k, k ≠ b → w'.heap[k]? = w.heap[k]?

theorem cellOf {w : World} {b : Nat} {c : Array Value} {t : TypeId} (h : w.heap[b]? = some (.cells c t (0, 0))) (i : Nat) {v : Value} (hv : c[i]? = some v) : w.cell? ⟨b, i, none⟩ = some v := by
  rw [cell_of_row w b i c t (0, 0) h]; exact hv
theorem lt_of {w : World} {b : Nat} {x : Obj} (h : w.heap[b]? = some x) : b < w.heap.size := (Array.getElem?_eq_some_iff.1 h).1

theorem WPut.here {w : World} {b : Nat} {v : Value} {t : TypeId} (h : w.heap[b]? = some (.cells #[v] t (0, 0))) : WPut w w b v t := ⟨rfl, rfl, rfl, rfl, h, fun _ _ => rfl⟩
theorem WPut.put {w w' : World} {b : Nat} {u : Value} {t : TypeId} (h : WPut w w' b u t) (v : Value) : WPut w (w'.setCell ⟨b, 0, none⟩ v) b v t :=
  ⟨h.os, h.tape, h.output, by simp [World.setCell, h.size], by simpa using heap_setCell_same w' b 0 #[u] t v h.cell, fun k hk => (heap_setCell_other w' ⟨b, 0, none⟩ k v hk).trans (h.other k hk)⟩
theorem WPut.drewN {w w' : World} {b : Nat} {v : Value} {t : TypeId} (h : WPut w w' b v t) (n : Nat) : WPut w (w'.drewN n) b v t := ⟨h.os, h.tape, h.output, h.size, h.cell, h.other⟩
theorem WPut.cell' {w w' : World} {b : Nat} {v : Value} {t : TypeId} {c i : Nat} {u : Value} (hp : WPut w w' b v t) (hne : c ≠ b) (h : w.cell? ⟨c, i, none⟩ = some u) : w'.cell? ⟨c, i, none⟩ = some u := by
  rw [World.cell?_of_block (w := w) (a := ⟨c, i, none⟩) (hp.other c hne)]; exact h

/-- Where the digits from k on end. -/
def drun (B : Nat → Int) (n k : Nat) : Nat :=
  if h : k < n ∧ 48 ≤ B k ∧ B k ≤ 57 then drun B n (k + 1) else k
termination_by n - k

theorem drun_step {B : Nat → Int} {n k : Nat} (h1 : k < n) (h2 : 48 ≤ B k) (h3 : B k ≤ 57) : drun B n k = drun B n (k + 1) := by
  rw [drun, dif_pos ⟨h1, h2, h3⟩]
theorem drun_stop {B : Nat → Int} {n k : Nat} (h : ¬ (k < n ∧ 48 ≤ B k ∧ B k ≤ 57)) : drun B n k = k := by
  rw [drun, dif_neg h]
theorem drun_le (B : Nat → Int) (n k : Nat) (hk : k ≤ n) : k ≤ drun B n k ∧ drun B n k ≤ n := by
  induction hm : n - k generalizing k with
  | zero => rw [drun_stop (by omega)]; omega
  | succ m ih =>
    by_cases h : k < n ∧ 48 ≤ B k ∧ B k ≤ 57
    · rw [drun_step h.1 h.2.1 h.2.2]
      have := ih (k + 1) (by omega) (by omega)
      omega
    · rw [drun_stop h]; omega

set_option maxRecDepth 100000 in
set_option maxHeartbeats 1600000 in
theorem digits26 (jb pb rb n c : Nat) (a : Option Addr) (B : Nat → Int) (k0 : Nat) (w : World) (hk : k0 ≤ n) (hn : n ≤ 200000)
    (cj : w.heap[jb]? = some (.cells #[.int .i64 k0] 3 (0, 0))) (cp : w.cell? ⟨pb, 0, none⟩ = some (.pointer (some ⟨rb, 0, none⟩))) (cb : w.cell? ⟨rb, 0, none⟩ = some (.slice a n c)) (hrow : RowB w a n B)
    (n1 : pb ≠ jb) (n2 : rb ≠ jb) (n3 : ∀ b o, a = some ⟨b, o, none⟩ → b ≠ jb) :
    Calls Try.prog 26 #[.pointer (some ⟨jb, 0, none⟩), .pointer (some ⟨pb, 0, none⟩)] w fun e w' => e = .returned (.int .i64 ((drun B n k0 : Int) - k0)) ∧ WPut w w' jb (.int .i64 (drun B n k0)) 3 := by
  have c0 := cellOf cj 0 (v := .int .i64 k0) rfl
  have HP : Hid (WPut w w jb (.int .i64 k0) 3) := WPut.here cj
  have HC : Hid (w.cell? ⟨pb, 0, none⟩ = some (.pointer (some ⟨rb, 0, none⟩)) ∧ w.cell? ⟨rb, 0, none⟩ = some (.slice a n c) ∧ RowB w a n B ∧ pb ≠ jb ∧ rb ≠ jb ∧ ∀ b o, a = some ⟨b, o, none⟩ → b ≠ jb) := ⟨cp, cb, hrow, n1, n2, n3⟩
  clear cj cp cb hrow n1 n2 n3
  have HL : Hid (drun B n k0 ≤ n ∧ k0 ≤ drun B n k0) := ⟨(drun_le B n k0 hk).2, (drun_le B n k0 hk).1⟩
  obtain ⟨d, hd⟩ : ∃ d, drun B n k0 = d := ⟨_, rfl⟩
  rw [hd] at HL ⊢
  have HD : Hid (drun B n k0 = d) := hd
  clear hd
  go_enter Try.func26, Try.ntmps26
  go_wp2
  clear c0
  go_loopg [] (n - k0) (fun g wr => ∃ k : Nat, k0 ≤ k ∧ k ≤ n ∧ Hid (drun B n k = d) ∧ Hid (WPut w wr jb (.int .i64 k) 3) ∧ g = n - k)
  case atStart => exact ⟨k0, by omega, hk, HD, HP, rfl⟩
  case round =>
    obtain ⟨k, hk1, hk2, hdk, hP, rfl⟩ := hrel
    have cj := cellOf hP.out.cell 0 (v := .int .i64 k) rfl
    have fj := frozen_of_row wr jb 0 _ 3 hP.out.cell
    have cp := hP.out.cell' HC.out.2.2.2.1 HC.out.1
    have cb := hP.out.cell' HC.out.2.2.2.2.1 HC.out.2.1
    by_cases h1 : k < n
    · obtain ⟨b, o, rfl, hc0⟩ := HC.out.2.2.1 k h1
      have hc := hP.out.cell' (HC.out.2.2.2.2.2 b o rfl) hc0
      clear hc0
      by_cases h2 : 48 ≤ B k
      · by_cases h3 : B k ≤ 57
        · go_wp2
          go_quiet (fail)
          go_wp2
          go_roundg (n - (k + 1))
          case measure => omega
          case rel => exact ⟨k + 1, by omega, by omega, (drun_step h1 h2 h3).symm.trans hdk.out, (hP.out.drewN _).put (.int .i64 ((k : Int) + 1)), rfl⟩
        · have hk' : k = d := by rw [← hdk.out, drun_stop (by omega)]
          subst hk'
          go_wp2
          go_quiet (fail)
          go_wp2
          go_ret
          exact ⟨rfl, hP.out.drewN _⟩
      · have hk' : k = d := by rw [← hdk.out, drun_stop (by omega)]
        subst hk'
        have g2 : decide (48 ≤ B k) = false := by simp [h2]
        have g1 : decide ((k : Int) < n) = true := by simp [h1]
        go_wp2
        go_quiet (fail)
        go_wp2
        go_ret
        exact ⟨rfl, hP.out.drewN _⟩
    · have hk' : k = d := by rw [← hdk.out, drun_stop (by omega)]
      subst hk'
      have g1 : decide ((k : Int) < n) = false := by simp [h1]
      go_wp2
      go_quiet (fail)
      go_wp2
      go_ret
      exact ⟨rfl, hP.out.drewN _⟩
end Go.Proofs.Qxb6602886a
