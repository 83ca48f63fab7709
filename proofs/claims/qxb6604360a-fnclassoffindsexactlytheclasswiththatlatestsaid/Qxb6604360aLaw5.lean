import Derived.Test.Qxb6604360aElem15
import Derived.Test.Qxb6604360aFind
import Derived.Lib.Builder
/- zzBytes (13) and the law FnClassOfFindsExactlyTheClassWithThatLatest (5). -/
namespace Go.Proofs.Qxb6604360a
open Go.RowKit Go.Deep
set_option linter.unusedVariables false

set_option maxRecDepth 100000 in
set_option maxHeartbeats 1600000 in
theorem bytes13 (a0 a1 a2 a3 a4 a6 : Option Addr) (nr c0 k c1 nk c2 nb c3 nn c4 nl c6 : Nat) (bare : Int) (A : Nat → Option Addr) (L C : Nat → Nat) (V : Nat → Nat → Int) (w : World)
    (h0 : nr ≤ maxLen) (h1 : k ≤ maxLen) (h2 : nk ≤ maxLen) (h3 : nb ≤ maxLen) (h4 : nn ≤ maxLen) (h6 : nl ≤ maxLen) (hL : ∀ j, j < k → L j ≤ maxLen) (r1 : RowS w a1 k A L C V) :
    Calls Try.prog 13 #[.slice a0 nr c0, .slice a1 k c1, .slice a2 nk c2, .slice a3 nb c3, .slice a4 nn c4, .int .u32 bare, .slice a6 nl c6] w fun e w' => ∃ r, e = .returned (.bool r) ∧ w' = w := by
  unfold maxLen at h0 h1 h2 h3 h4 h6
  have R1 : Hid (RowS w a1 k A L C V) := r1
  have HL : Hid (∀ j, j < k → L j ≤ maxLen) := hL
  clear r1 hL
  by_cases hz : nr ≤ 1048576 ∧ k ≤ 1048576 ∧ nr + k ≤ 1048576
  · obtain ⟨z0, z1, z2⟩ := hz
    have y0 : ¬ (1048576 : Int) < (nr : Int) := by omega
    have y1 : ¬ (1048576 : Int) < (k : Int) := by omega
    have y2 : ¬ (1048576 : Int) < (nr : Int) + (k : Int) := by omega
    go_enter Try.func13, Try.ntmps13
    go_wp2
    go_loopg [15, 16] k (fun g z i wr => ∃ j s : Nat, w = wr ∧ z = .int .i64 s ∧ i = .int .i64 j ∧ s ≤ 1048576 ∧ j ≤ k ∧ g = k - j)
    case atStart => exact ⟨0, nr + k, rfl, by go_num, rfl, by omega, by omega, rfl⟩
    case round =>
      obtain ⟨j, s, rfl, rfl, rfl, hs, hj, rfl⟩ := hrel
      by_cases hlt : j < k
      · obtain ⟨⟨b1, o1, rfl, hb1, hc1⟩, -, -⟩ := R1.out j hlt
        have hlj := HL.out j hlt
        unfold maxLen at hlj
        by_cases hl1 : 1048576 < L j
        · go_wp2
          go_ret
          exact ⟨_, rfl, rfl⟩
        · by_cases hl2 : 1048576 < s + L j
          · go_wp2
            go_ret
            exact ⟨_, rfl, rfl⟩
          · go_wp2
            go_roundg (k - (j + 1))
            case measure => omega
            case rel => exact ⟨j + 1, s + L j, rfl, by go_num, by go_num, by omega, by omega, rfl⟩
      · go_wp2
        all_goals
          go_ret
          exact ⟨_, rfl, rfl⟩
  · go_enter Try.func13, Try.ntmps13
    go_wp2
    all_goals
      go_ret
      exact ⟨_, rfl, rfl⟩

/-- What 'want' holds. -/
def wantV : Option Nat → Int
  | none => -1
  | some c => c

theorem found_zero {V : Nat → Nat → Int} {L : Nat → Nat} {X : Nat → Int} {l : Nat} : Found V L 0 X l none :=
  ⟨fun c h => (by cases h), fun _ c h => absurd h (Nat.not_lt_zero _)⟩

theorem found_hit {V : Nat → Nat → Int} {L : Nat → Nat} {X : Nat → Int} {l j : Nat} (hs : Same (V j) (L j) X l) : Found V L (j + 1) X l (some j) :=
  ⟨fun c h => (by
    obtain rfl : j = c := by simpa using h
    exact ⟨by omega, hs, fun c' h1 h2 => absurd h2 (by omega)⟩), fun h => (by cases h)⟩

theorem found_miss {V : Nat → Nat → Int} {L : Nat → Nat} {X : Nat → Int} {l j : Nat} {r : Option Nat} (h : Found V L j X l r) (hs : ¬ Same (V j) (L j) X l) : Found V L (j + 1) X l r := by
  refine ⟨fun c hc => ?_, fun hr c hc => ?_⟩
  · obtain ⟨h1, h2, h3⟩ := h.1 c hc
    refine ⟨by omega, h2, fun c' a b => ?_⟩
    by_cases e : c' = j
    · rw [e]; exact hs
    · exact h3 c' a (by omega)
  · by_cases e : c = j
    · rw [e]; exact hs
    · exact h.2 hr c (by omega)

theorem found_unique {V : Nat → Nat → Int} {L : Nat → Nat} {k : Nat} {X : Nat → Int} {l : Nat} {r r' : Option Nat} (h : Found V L k X l r) (h' : Found V L k X l r') : r = r' := by
  cases r with
  | none =>
    cases r' with
    | none => rfl
    | some c => exact absurd (h'.1 c rfl).2.1 (h.2 rfl c (h'.1 c rfl).1)
  | some c =>
    obtain ⟨h1, h2, h3⟩ := h.1 c rfl
    cases r' with
    | none => exact absurd h2 (h'.2 rfl c h1)
    | some c' =>
      obtain ⟨h4, h5, h6⟩ := h'.1 c' rfl
      by_cases e : c < c'
      · exact absurd h5 (h3 c' e h4)
      · by_cases e2 : c' < c
        · exact absurd h2 (h6 c e2 h1)
        · rw [show c = c' by omega]

set_option maxRecDepth 100000 in
set_option maxHeartbeats 3200000 in
theorem law5 (a0 a1 a2 a3 a4 a6 : Option Addr) (nr c0 k c1 nk c2 nb c3 nn c4 nl c6 : Nat) (bare : Int) (R K Bf N X : Nat → Int) (A : Nat → Option Addr) (L C : Nat → Nat) (V : Nat → Nat → Int) (w : World)
    (h0 : nr ≤ maxLen) (h1 : k ≤ maxLen) (h2 : nk ≤ maxLen) (h3 : nb ≤ maxLen) (h4 : nn ≤ maxLen) (h6 : nl ≤ maxLen) (hL : ∀ j, j < k → L j ≤ maxLen) (hnil : a0 = none → nr = 0 ∧ c0 = 0) (hnil6 : a6 = none → nl = 0 ∧ c6 = 0)
    (r0 : Row .u32 w a0 nr R) (r1 : RowS w a1 k A L C V) (r2 : Row .u32 w a2 nk K) (r3 : Row .u32 w a3 nb Bf) (r4 : Row .u32 w a4 nn N) (r6 : Row .u32 w a6 nl X) :
    Calls Try.prog 5 #[.slice a0 nr c0, .slice a1 k c1, .slice a2 nk c2, .slice a3 nb c3, .slice a4 nn c4, .int .u32 bare, .slice a6 nl c6] w fun e w' => e = .returned (.bool true) ∧ Below w.heap.size w w' := by
  have B7 := bytes13 a0 a1 a2 a3 a4 a6 nr c0 k c1 nk c2 nb c3 nn c4 nl c6 bare A L C V w h0 h1 h2 h3 h4 h6 hL r1
  unfold maxLen at h0 h1 h2 h3 h4 h6
  have R0 : Hid (Row .u32 w a0 nr R) := r0
  have R1 : Hid (RowS w a1 k A L C V) := r1
  have R2 : Hid (Row .u32 w a2 nk K) := r2
  have R3 : Hid (Row .u32 w a3 nb Bf) := r3
  have R4 : Hid (Row .u32 w a4 nn N) := r4
  have R6 : Hid (Row .u32 w a6 nl X) := r6
  have HNIL6 : Hid (a6 = none → nl = 0 ∧ c6 = 0) := hnil6
  have HLM : Hid (∀ j, j < k → L j ≤ maxLen) := hL
  have HNIL : Hid (a0 = none → nr = 0 ∧ c0 = 0) := hnil
  clear r0 r1 r2 r3 r4 r6 hL hnil hnil6
  obtain ⟨i64, hi64, -, -, -⟩ := info_parts Try.info64
  have heql := fun (w : World) (a : Addr) => run_eql_ptr_same (P := Try.prog) w a Try.underlying38 hi64
  clear hi64 i64
  by_cases hz : nr ≤ 65536 ∧ k ≤ 4096 ∧ nk ≤ 65536 ∧ nb ≤ 65536 ∧ nn ≤ 65536 ∧ nl ≤ 65536
  · obtain ⟨z0, z1, z2, z3, z4, z6⟩ := hz
    have y0 : ¬ (65536 : Int) < (nr : Int) := by omega
    have y1 : ¬ (4096 : Int) < (k : Int) := by omega
    have y2 : ¬ (65536 : Int) < (nk : Int) := by omega
    have y3 : ¬ (65536 : Int) < (nb : Int) := by omega
    have y4 : ¬ (65536 : Int) < (nn : Int) := by omega
    have y6 : ¬ (65536 : Int) < (nl : Int) := by omega
    have d6 : decide ((65536 : Int) < (nl : Int)) = false := decide_eq_false y6
    have d0 : decide ((65536 : Int) < (nr : Int)) = false := decide_eq_false y0
    have d1 : decide ((4096 : Int) < (k : Int)) = false := decide_eq_false y1
    have d2 : decide ((65536 : Int) < (nk : Int)) = false := decide_eq_false y2
    have d3 : decide ((65536 : Int) < (nb : Int)) = false := decide_eq_false y3
    have d4 : decide ((65536 : Int) < (nn : Int)) = false := decide_eq_false y4
    go_enter Try.func5, Try.ntmps5
    go_wp2_with fail
    refine B7.mono ?_
    rintro e w' ⟨r, rfl, rfl⟩
    cases r
    · go_wp2
      go_ret
      exact ⟨rfl, Below.refl _ _⟩
    · go_wp2_with fail
      go_loopg [15, 16] k (fun g z i wr => ∃ j s : Nat, w' = wr ∧ z = .int .i64 s ∧ i = .int .i64 j ∧ s ≤ 4000000 + 262144 * j ∧ j ≤ k ∧ g = k - j ∧ Hid (∀ j', j' < j → L j' ≤ 65536))
      case atStart => exact ⟨0, 4 * nr + 24 * k + 4 * nk + 4 * nb + 4 * nn + 4 * nl, rfl, by go_num, rfl, by omega, by omega, rfl, fun j h => absurd h (Nat.not_lt_zero _)⟩
      case round =>
        obtain ⟨j, s, rfl, rfl, rfl, hs, hj, rfl, hlen⟩ := hrel
        by_cases hlt : j < k
        · obtain ⟨⟨b1, o1, rfl, hb1, hc1⟩, -, -⟩ := R1.out j hlt
          have hlj := HLM.out j hlt
          unfold maxLen at hlj
          by_cases hl1 : 65536 < L j
          · go_wp2
            go_ret
            exact ⟨rfl, Below.refl _ _⟩
          · go_wp2
            go_roundg (k - (j + 1))
            case measure => omega
            case rel => exact ⟨j + 1, s + 4 * L j, rfl, by go_num, by go_num, by omega, by omega, rfl, all_step hlen.out (by omega)⟩
        · obtain rfl : k = j := by omega
          clear hlt
          by_cases hs2 : 1048576 < s
          · go_wp2
            go_ret
            exact ⟨rfl, Below.refl _ _⟩
          · go_wp2_with fail
            refine (latest14 a0 a6 nr c0 nl c6 R X _ z0 z6 R0.out R6.out).mono ?_
            rintro e w0 ⟨r, rfl, ⟨q, rfl⟩, hr⟩
            cases r
            · clear hr
              go_wp2
              go_ret
              exact ⟨rfl, (Below.refl _ _).drewN' _⟩
            · have LX : Hid (Lies R nr X nl) := hr rfl
              clear hr
              go_wp2_with fail
              refine (elem15_any a0 a1 a2 a3 a4 nr c0 k c1 nk c2 nb c3 nn c4 bare R K Bf N A L C V _ z0 z1 z2 z3 z4 hlen.out (R0.out.drewN _) (R1.out.drewN _) (R2.out.drewN _) (R3.out.drewN _) (R4.out.drewN _)).mono ?_
              rintro e w1 ⟨r, rfl, hb1, hr⟩
              have HB1 : Hid (Below w'.heap.size w' w1) := ((Below.refl _ _).drewN' q).trans hb1
              clear hb1
              cases r
              · clear hr
                go_wp2
                go_ret
                exact ⟨rfl, HB1.out⟩
              · obtain ⟨rfl, rfl, rfl, hEl⟩ := hr rfl
                have EL : Hid (Elem R nn V L nb Bf N bare) := hEl
                clear hr hEl
                go_wp2_with fail
                refine (build16 a0 a1 a2 a3 a4 nn c0 nb c1 c2 c3 c4 bare R K Bf N A L C V _ z0 z1 hlen.out HNIL.out (R0.out.below HB1.out) (R1.out.below HB1.out) (R2.out.below HB1.out) (R3.out.below HB1.out) (R4.out.below HB1.out)).mono ?_
                rintro e w2 ⟨eb, cb, rfl, hE, hb2⟩
                have HE : Hid (ElemAt w2 eb cb nn nb R N Bf L V bare) := hE
                have HB2 : Hid (Below w'.heap.size w' w2) := HB1.out.trans (hb2.mono HB1.out.size)
                clear hE hb2
                go_wp2_with fail
                refine (refs18 a6 nl c6 X _ z6 HNIL6.out (R6.out.below HB2.out)).mono ?_
                rintro e w3 ⟨a', c', rfl, hrow3, hb3⟩
                have HE3 : Hid (ElemAt w3 eb cb nn nb R N Bf L V bare) := HE.out.below hb3
                have HR3 : Hid (Row .u32 w3 a' nl X) := hrow3.row
                have HB3 : Hid (Below w'.heap.size w' w3) := HB2.out.trans (hb3.mono HB2.out.size)
                clear hrow3 hb3
                go_wp2_with fail
                refine (class17 eb cb nn nb nl a' c' R N Bf X L V bare _ z0 (by omega) z6 hlen.out HE3.out EL.out HR3.out LX.out).mono ?_
                rintro e w4 ⟨r, rfl, hf, q2, rfl⟩
                have HF : Hid (Found V L nb X nl r) := hf
                clear hf
                go_wp2
                go_loopg [19, 20] nb (fun g z i wr => ∃ j : Nat, ∃ r' : Option Nat, ∃ q', wr = w3.drewN q' ∧ j ≤ nb ∧ g = nb - j ∧ i = .int .i64 j ∧ z = .int .i64 (wantV r') ∧ Hid (Found V L j X nl r'))
                case atStart => exact ⟨0, none, q2, rfl, by omega, rfl, rfl, rfl, found_zero⟩
                case round =>
                  obtain ⟨j, r', q', rfl, hj, rfl, rfl, rfl, hfj⟩ := hrel
                  by_cases hlt : j < nb
                  · obtain ⟨⟨b1, o1, rfl, hb1, hc1⟩, hrj, hnj⟩ := R1.out j hlt
                    have g1 : w3.cell? ⟨b1, o1 + j, none⟩ = some (.slice (A j) (L j) (C j)) := (HB3.out.cell (p := ⟨b1, o1 + j, none⟩) hb1).trans hc1
                    have RJ : Hid (Row .u32 w3 (A j) (L j) (V j)) := hrj.below HB3.out
                    clear hc1 hrj hnj
                    by_cases hs : Same (V j) (L j) X nl
                    · have HS : Hid (Same (V j) (L j) X nl) := hs
                      clear hs
                      go_wp2_with fail
                      refine (same_t _ (hlen.out j hlt) z6 (RJ.out.drewN _) ((R6.out.below HB3.out).drewN _) HS.out).mono ?_
                      rintro e w5 ⟨rfl, q5, rfl⟩
                      go_wp2
                      go_roundg (nb - (j + 1))
                      case measure => omega
                      case rel => exact ⟨j + 1, some j, _, rfl, by omega, rfl, by go_num, rfl, found_hit HS.out⟩
                    · have HS : Hid (¬ Same (V j) (L j) X nl) := hs
                      clear hs
                      go_wp2_with fail
                      refine (same_f _ (hlen.out j hlt) z6 (RJ.out.drewN _) ((R6.out.below HB3.out).drewN _) HS.out).mono ?_
                      rintro e w5 ⟨rfl, q5, rfl⟩
                      go_wp2
                      go_roundg (nb - (j + 1))
                      case measure => omega
                      case rel => exact ⟨j + 1, r', _, rfl, by omega, rfl, by go_num, rfl, found_miss hfj.out HS.out⟩
                  · obtain rfl : nb = j := by omega
                    obtain rfl : r = r' := found_unique HF.out hfj.out
                    clear hfj
                    cases r with
                    | none =>
                      have hw : wantV none = -1 := rfl
                      rw [hw]
                      clear hw
                      go_wp2
                      go_ret
                      exact ⟨rfl, HB3.out.drewN' _⟩
                    | some cc =>
                      have hcc : cc < nb := (HF.out.1 cc rfl).1
                      have hw : wantV (some cc) = (cc : Int) := rfl
                      rw [hw]
                      clear hw
                      go_wp2_with fail
                      refine (at20 eb cb nb cc _ (by omega) hcc (by simpa using HE3.out.cls)).mono ?_
                      rintro e w5 ⟨rfl, hw⟩
                      rw [hw]
                      clear hw
                      go_wp2
                      go_ret
                      exact ⟨rfl, HB3.out.drewN' _⟩
  · go_enter Try.func5, Try.ntmps5
    go_wp2_with fail
    refine B7.mono ?_
    rintro e w' ⟨r, rfl, rfl⟩
    cases r
    · go_wp2
      go_ret
      exact ⟨rfl, Below.refl _ _⟩
    · go_wp2_with fail
      all_goals
        go_ret
        exact ⟨rfl, Below.refl _ _⟩
end Go.Proofs.Qxb6604360a
