import Derived.Test.Qxb6604360aElem15
import Derived.Test.Qxb6604360aFind
import Derived.Lib.Builder
/- zzBytes (21) and the law FnClassOfFindsEveryClassByItsOwnLatest (6). -/
namespace Go.Proofs.Qxb6604360a
open Go.RowKit Go.Deep
set_option linter.unusedVariables false

set_option maxRecDepth 100000 in
set_option maxHeartbeats 1600000 in
theorem bytes21 (a0 a1 a2 a3 a4 : Option Addr) (nr c0 k c1 nk c2 nb c3 nn c4 : Nat) (bare : Int) (A : Nat → Option Addr) (L C : Nat → Nat) (V : Nat → Nat → Int) (w : World)
    (h0 : nr ≤ maxLen) (h1 : k ≤ maxLen) (h2 : nk ≤ maxLen) (h3 : nb ≤ maxLen) (h4 : nn ≤ maxLen) (hL : ∀ j, j < k → L j ≤ maxLen) (r1 : RowS w a1 k A L C V) :
    Calls Try.prog 21 #[.slice a0 nr c0, .slice a1 k c1, .slice a2 nk c2, .slice a3 nb c3, .slice a4 nn c4, .int .u32 bare] w fun e w' => ∃ r, e = .returned (.bool r) ∧ w' = w := by
  unfold maxLen at h0 h1 h2 h3 h4
  have R1 : Hid (RowS w a1 k A L C V) := r1
  have HL : Hid (∀ j, j < k → L j ≤ maxLen) := hL
  clear r1 hL
  by_cases hz : nr ≤ 1048576 ∧ k ≤ 1048576 ∧ nr + k ≤ 1048576
  · obtain ⟨z0, z1, z2⟩ := hz
    have y0 : ¬ (1048576 : Int) < (nr : Int) := by omega
    have y1 : ¬ (1048576 : Int) < (k : Int) := by omega
    have y2 : ¬ (1048576 : Int) < (nr : Int) + (k : Int) := by omega
    go_enter Try.func21, Try.ntmps21
    go_wp2
    go_loopg [13, 14] k (fun g z i wr => ∃ j s : Nat, w = wr ∧ z = .int .i64 s ∧ i = .int .i64 j ∧ s ≤ 1048576 ∧ j ≤ k ∧ g = k - j)
    case atStart => exact ⟨0, nr + k, rfl, by go_num, rfl, by omega, by omega, rfl⟩
    case round =>
      obtain ⟨j, s, rfl, rfl, rfl, hs, hj, rfl⟩ := hrel
      by_cases hlt : j < k
      · obtain ⟨⟨b1, o1, rfl, hb1, hc1⟩, -, -⟩ := R1.out j hlt
        have hlj := HL.out j hlt
        unfold maxLen at hlj
        by_cases hl1 : 1048576 < L j
        · go_wp2
          go_ret
          exact ⟨_, rfl, rfl⟩
        · by_cases hl2 : 1048576 < s + L j
          · go_wp2
            go_ret
            exact ⟨_, rfl, rfl⟩
          · go_wp2
            go_roundg (k - (j + 1))
            case measure => omega
            case rel => exact ⟨j + 1, s + L j, rfl, by go_num, by go_num, by omega, by omega, rfl⟩
      · go_wp2
        all_goals
          go_ret
          exact ⟨_, rfl, rfl⟩
  · go_enter Try.func21, Try.ntmps21
    go_wp2
    all_goals
      go_ret
      exact ⟨_, rfl, rfl⟩

theorem Same.symm {V V' : Nat → Int} {l l' : Nat} (h : Same V l V' l') : Same V' l' V l := ⟨h.1.symm, fun i hi => (h.2 i (by rw [h.1]; exact hi)).symm⟩

/-- Asked with its own latest, a class is found. -/
theorem found_own {R N Bf : Nat → Int} {nr k : Nat} {V : Nat → Nat → Int} {L : Nat → Nat} {bare : Int} {j : Nat} {r : Option Nat} (E : Elem R nr V L k Bf N bare) (hj : j < k) (h : Found V L k (V j) (L j) r) : r = some j := by
  have hjj : Same (V j) (L j) (V j) (L j) := ⟨rfl, fun _ _ => rfl⟩
  cases r with
  | none => exact absurd hjj (h.2 rfl j hj)
  | some c =>
    obtain ⟨hc, hs, hn⟩ := h.1 c rfl
    by_cases e : c = j
    · rw [e]
    · by_cases e2 : c < j
      · exact absurd hjj (hn j e2 hj)
      · exact absurd hs.symm (E.dist c hc j (by omega))

set_option maxRecDepth 100000 in
set_option maxHeartbeats 3200000 in
theorem law6 (a0 a1 a2 a3 a4 : Option Addr) (nr c0 k c1 nk c2 nb c3 nn c4 : Nat) (bare : Int) (R K Bf N : Nat → Int) (A : Nat → Option Addr) (L C : Nat → Nat) (V : Nat → Nat → Int) (w : World)
    (h0 : nr ≤ maxLen) (h1 : k ≤ maxLen) (h2 : nk ≤ maxLen) (h3 : nb ≤ maxLen) (h4 : nn ≤ maxLen) (hL : ∀ j, j < k → L j ≤ maxLen) (hnil : a0 = none → nr = 0 ∧ c0 = 0)
    (r0 : Row .u32 w a0 nr R) (r1 : RowS w a1 k A L C V) (r2 : Row .u32 w a2 nk K) (r3 : Row .u32 w a3 nb Bf) (r4 : Row .u32 w a4 nn N) :
    Calls Try.prog 6 #[.slice a0 nr c0, .slice a1 k c1, .slice a2 nk c2, .slice a3 nb c3, .slice a4 nn c4, .int .u32 bare] w fun e w' => e = .returned (.bool true) ∧ Below w.heap.size w w' := by
  have B7 := bytes21 a0 a1 a2 a3 a4 nr c0 k c1 nk c2 nb c3 nn c4 bare A L C V w h0 h1 h2 h3 h4 hL r1
  unfold maxLen at h0 h1 h2 h3 h4
  have R0 : Hid (Row .u32 w a0 nr R) := r0
  have R1 : Hid (RowS w a1 k A L C V) := r1
  have R2 : Hid (Row .u32 w a2 nk K) := r2
  have R3 : Hid (Row .u32 w a3 nb Bf) := r3
  have R4 : Hid (Row .u32 w a4 nn N) := r4
  have HLM : Hid (∀ j, j < k → L j ≤ maxLen) := hL
  have HNIL : Hid (a0 = none → nr = 0 ∧ c0 = 0) := hnil
  clear r0 r1 r2 r3 r4 hL hnil
  obtain ⟨i64, hi64, -, -, -⟩ := info_parts Try.info64
  have hneq := fun (w : World) (a : Addr) => Lib.run_neq_ptr_same (P := Try.prog) w a Try.underlying38 hi64
  clear hi64 i64
  by_cases hz : nr ≤ 65536 ∧ k ≤ 4096 ∧ nk ≤ 65536 ∧ nb ≤ 65536 ∧ nn ≤ 65536
  · obtain ⟨z0, z1, z2, z3, z4⟩ := hz
    have y0 : ¬ (65536 : Int) < (nr : Int) := by omega
    have y1 : ¬ (4096 : Int) < (k : Int) := by omega
    have y2 : ¬ (65536 : Int) < (nk : Int) := by omega
    have y3 : ¬ (65536 : Int) < (nb : Int) := by omega
    have y4 : ¬ (65536 : Int) < (nn : Int) := by omega
    have d0 : decide ((65536 : Int) < (nr : Int)) = false := decide_eq_false y0
    have d1 : decide ((4096 : Int) < (k : Int)) = false := decide_eq_false y1
    have d2 : decide ((65536 : Int) < (nk : Int)) = false := decide_eq_false y2
    have d3 : decide ((65536 : Int) < (nb : Int)) = false := decide_eq_false y3
    have d4 : decide ((65536 : Int) < (nn : Int)) = false := decide_eq_false y4
    go_enter Try.func6, Try.ntmps6
    go_wp2_with fail
    refine B7.mono ?_
    rintro e w' ⟨r, rfl, rfl⟩
    cases r
    · go_wp2
      go_ret
      exact ⟨rfl, Below.refl _ _⟩
    · go_wp2_with fail
      go_loopg [13, 14] k (fun g z i wr => ∃ j s : Nat, w' = wr ∧ z = .int .i64 s ∧ i = .int .i64 j ∧ s ≤ 4000000 + 262144 * j ∧ j ≤ k ∧ g = k - j ∧ Hid (∀ j', j' < j → L j' ≤ 65536))
      case atStart => exact ⟨0, 4 * nr + 24 * k + 4 * nk + 4 * nb + 4 * nn, rfl, by go_num, rfl, by omega, by omega, rfl, fun j h => absurd h (Nat.not_lt_zero _)⟩
      case round =>
        obtain ⟨j, s, rfl, rfl, rfl, hs, hj, rfl, hlen⟩ := hrel
        by_cases hlt : j < k
        · obtain ⟨⟨b1, o1, rfl, hb1, hc1⟩, -, -⟩ := R1.out j hlt
          have hlj := HLM.out j hlt
          unfold maxLen at hlj
          by_cases hl1 : 65536 < L j
          · go_wp2
            go_ret
            exact ⟨rfl, Below.refl _ _⟩
          · go_wp2
            go_roundg (k - (j + 1))
            case measure => omega
            case rel => exact ⟨j + 1, s + 4 * L j, rfl, by go_num, by go_num, by omega, by omega, rfl, all_step hlen.out (by omega)⟩
        · obtain rfl : k = j := by omega
          clear hlt
          by_cases hs2 : 1048576 < s
          · go_wp2
            go_ret
            exact ⟨rfl, Below.refl _ _⟩
          · go_wp2_with fail
            refine (elem15_any a0 a1 a2 a3 a4 nr c0 k c1 nk c2 nb c3 nn c4 bare R K Bf N A L C V _ z0 z1 z2 z3 z4 hlen.out R0.out R1.out R2.out R3.out R4.out).mono ?_
            rintro e w1 ⟨r, rfl, hb1, hr⟩
            cases r
            · clear hr
              go_wp2
              go_ret
              exact ⟨rfl, hb1⟩
            · obtain ⟨rfl, rfl, rfl, hEl⟩ := hr rfl
              have EL : Hid (Elem R nn V L nb Bf N bare) := hEl
              have HB1 : Hid (Below w'.heap.size w' w1) := hb1
              clear hr hEl hb1
              go_wp2_with fail
              refine (build16 a0 a1 a2 a3 a4 nn c0 nb c1 c2 c3 c4 bare R K Bf N A L C V _ z0 z1 hlen.out HNIL.out (R0.out.below HB1.out) (R1.out.below HB1.out) (R2.out.below HB1.out) (R3.out.below HB1.out) (R4.out.below HB1.out)).mono ?_
              rintro e w2 ⟨eb, cb, rfl, hE, hb2⟩
              have HE : Hid (ElemAt w2 eb cb nn nb R N Bf L V bare) := hE
              have HB2 : Hid (Below w'.heap.size w' w2) := HB1.out.trans (hb2.mono HB1.out.size)
              clear hE hb2
              go_wp2
              go_loopg [16] nb (fun g i wr => ∃ j : Nat, j ≤ nb ∧ g = nb - j ∧ i = .int .i64 j ∧ Hid (ElemAt wr eb cb nn nb R N Bf L V bare) ∧ Hid (Below w'.heap.size w' wr))
              case atStart => exact ⟨0, by omega, rfl, rfl, HE, HB2⟩
              case round =>
                clear HE HB2
                obtain ⟨j, hj, rfl, rfl, HE, HB2⟩ := hrel
                by_cases hlt : j < nb
                · obtain ⟨⟨b1, o1, rfl, hb1, hc1⟩, hrj, hnj⟩ := R1.out j hlt
                  have g1 : wr.cell? ⟨b1, o1 + j, none⟩ = some (.slice (A j) (L j) (C j)) := (HB2.out.cell (p := ⟨b1, o1 + j, none⟩) hb1).trans hc1
                  have RJ : Hid (Row .u32 wr (A j) (L j) (V j)) := hrj.below HB2.out
                  have NJ : Hid (A j = none → L j = 0 ∧ C j = 0) := hnj
                  clear hc1 hrj hnj
                  go_wp2_with fail
                  refine (refs18 (A j) (L j) (C j) (V j) _ (hlen.out j hlt) NJ.out RJ.out).mono ?_
                  rintro e w3 ⟨a', c', rfl, hrow3, hb3⟩
                  have HE3 : Hid (ElemAt w3 eb cb nn nb R N Bf L V bare) := HE.out.below hb3
                  have HR3 : Hid (Row .u32 w3 a' (L j) (V j)) := hrow3.row
                  have HB3 : Hid (Below w'.heap.size w' w3) := HB2.out.trans (hb3.mono HB2.out.size)
                  clear hrow3 hb3
                  go_wp2_with fail
                  refine (class17 eb cb nn nb (L j) a' c' R N Bf (V j) L V bare _ z0 (by omega) (hlen.out j hlt) hlen.out HE3.out EL.out HR3.out (EL.out.lies j hlt)).mono ?_
                  rintro e w4 ⟨r, rfl, hf, q, rfl⟩
                  obtain rfl : r = some j := found_own EL.out hlt hf
                  clear hf
                  go_wp2_with fail
                  refine (at20 eb cb nb j _ (by omega) hlt (by simpa using HE3.out.cls)).mono ?_
                  rintro e w5 ⟨rfl, hw⟩
                  rw [hw]
                  clear hw
                  go_wp2
                  go_roundg (nb - (j + 1))
                  case measure => omega
                  case rel => exact ⟨j + 1, by omega, rfl, by go_num, HE3.out.drewN _, HB3.out.drewN' _⟩
                · go_wp2
                  go_ret
                  exact ⟨rfl, HB2.out⟩
  · go_enter Try.func6, Try.ntmps6
    go_wp2_with fail
    refine B7.mono ?_
    rintro e w' ⟨r, rfl, rfl⟩
    cases r
    · go_wp2
      go_ret
      exact ⟨rfl, Below.refl _ _⟩
    · go_wp2_with fail
      all_goals
        go_ret
        exact ⟨rfl, Below.refl _ _⟩
end Go.Proofs.Qxb6604360a
