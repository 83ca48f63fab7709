import Derived.Test.Qxb6604360aStore
import Derived.Test.Qxb6604360aReach
/- zzBytes (7) and the law FnTargetLandsOnAChangeThatIsItsOwnTarget (3). -/
namespace Go.Proofs.Qxb6604360a
open Go.RowKit Go.Deep
set_option linter.unusedVariables false

theorem bytes7 (a0 a1 a2 : Option Addr) (n0 c0 n1 c1 n2 c2 : Nat) (w : World) (h0 : n0 ≤ maxLen) (h1 : n1 ≤ maxLen) (h2 : n2 ≤ maxLen) :
    Calls Try.prog 7 #[.slice a0 n0 c0, .slice a1 n1 c1, .slice a2 n2 c2] w fun e w' => ∃ r, e = .returned (.bool r) ∧ w' = w := by
  unfold maxLen at h0 h1 h2
  go_enter Try.func7, Try.ntmps7
  go_wp2
  all_goals
    go_ret
    exact ⟨_, rfl, rfl⟩

/-- A change of shape 7 leads to an earlier change that is its own target. -/
theorem cnt_case {S P T : Nat → Int} {l m k : Nat} {s : Int} (hok : ∀ i, i < l → Ok S P T m i) (hk : k < l) (hs : S k = s) (h3 : ¬ s < 3) (h6 : ¬ s ≤ 6) :
    ∃ i, i < k ∧ Hid (tgtF S P T k = (i : Int) + 1) ∧ Hid (tgtF S P T i = (i : Int) + 1) ∧ Hid (Ok S P T m i) := by
  obtain ⟨h7, hc⟩ := hok k hk
  obtain ⟨hp, t1, tk, u3, u6⟩ := hc (by omega)
  refine ⟨(T (P k).toNat).toNat - 1, by omega, ?_, ?_, hok _ (by omega)⟩
  · show tgtF S P T k = _
    rw [tgtF, if_neg (by omega), if_neg (by omega)]
    omega
  · show tgtF S P T _ = _
    rw [tgtF, if_neg (by omega), if_pos u6]

set_option maxRecDepth 100000 in
set_option maxHeartbeats 1600000 in
theorem law3 (a0 a1 a2 : Option Addr) (n c0 l1 c1 m c2 : Nat) (S P T : Nat → Int) (w : World) (hx0 : n ≤ maxLen) (hx1 : l1 ≤ maxLen) (hx2 : m ≤ maxLen)
    (r0 : Row .u8 w a0 n S) (r1 : Row .u32 w a1 l1 P) (r2 : Row .u32 w a2 m T)
    (bS : ∀ i, 0 ≤ S i ∧ S i ≤ 255) (bP : ∀ i, 0 ≤ P i ∧ P i ≤ 4294967295) (bT : ∀ i, 0 ≤ T i ∧ T i ≤ 4294967295) :
    Calls Try.prog 3 #[.slice a0 n c0, .slice a1 l1 c1, .slice a2 m c2] w fun e w' => e = .returned (.bool true) ∧ Below w.heap.size w w' := by
  have B7 := bytes7 a0 a1 a2 n c0 l1 c1 m c2 w hx0 hx1 hx2
  unfold maxLen at hx0 hx1 hx2
  have R0 : Hid (Row .u8 w a0 n S) := r0
  have R1 : Hid (Row .u32 w a1 l1 P) := r1
  have R2 : Hid (Row .u32 w a2 m T) := r2
  have BS : Hid (∀ i, 0 ≤ S i ∧ S i ≤ 255) := bS
  have BP : Hid (∀ i, 0 ≤ P i ∧ P i ≤ 4294967295) := bP
  have BT : Hid (∀ i, 0 ≤ T i ∧ T i ≤ 4294967295) := bT
  clear r0 r1 r2 bS bP bT
  by_cases hz : n ≤ 65536 ∧ l1 ≤ 65536 ∧ m ≤ 65536
  · obtain ⟨hn, hl, hm⟩ := hz
    have q0 : ¬ (65536 : Int) < (n : Int) := by omega
    have q1 : ¬ (65536 : Int) < (l1 : Int) := by omega
    have q2 : ¬ (65536 : Int) < (m : Int) := by omega
    go_enter Try.func3, Try.ntmps3
    go_wp2_with fail
    refine B7.mono ?_
    rintro e w' ⟨r, rfl, rfl⟩
    cases r
    · go_wp2
      go_ret
      exact ⟨rfl, Below.refl _ _⟩
    · go_wp2_with fail
      refine (reach8 a0 a1 a2 n c0 l1 c1 m c2 S P T _ hn hm hl R0.out R1.out R2.out BS.out BP.out BT.out).mono ?_
      rintro e w1 ⟨r, rfl, hb1, hr⟩
      cases r
      · clear hr
        go_wp2
        go_ret
        exact ⟨rfl, hb1⟩
      · obtain ⟨rfl, hok⟩ := hr rfl
        have OK : Hid (∀ i, i < l1 → Ok S P T m i) := hok
        have HB1 : Hid _ := hb1
        clear hr hok hb1
        go_wp2_with fail
        refine (built a0 a1 none a2 l1 c0 c1 0 0 m c2 S P (fun _ => 0) T _ hn hm (by omega) (R0.out.below HB1.out) (R1.out.below HB1.out) (fun _ h => absurd h (Nat.not_lt_zero _)) (R2.out.below HB1.out)).mono ?_
        rintro e w2 ⟨sb, rfl, hb2, hst⟩
        have HB2 : Hid (Below w'.heap.size w' w2) := HB1.out.trans (hb2.mono HB1.out.size)
        have HST : Hid (StoreAt w2 sb l1 m S P T) := hst
        clear hb2 hst
        go_wp2
        go_loopg [8] l1 (fun g d wr => ∃ k : Nat, k ≤ l1 ∧ g = l1 - k ∧ d = .int .i64 ((k : Int) + 1) ∧ Hid (StoreAt wr sb l1 m S P T) ∧ Hid (Below w'.heap.size w' wr))
        case atStart => exact ⟨0, Nat.zero_le _, rfl, rfl, HST, HB2⟩
        case round =>
          obtain ⟨k, hk, rfl, rfl, hst, hb⟩ := hrel
          by_cases hlt : k < l1
          · obtain ⟨b0, o0, rfl, hb0, hc0⟩ := R0.out k hlt
            have g0 : wr.cell? ⟨b0, o0 + k, none⟩ = some (.int .u8 (S k)) := (hb.out.cell (p := ⟨b0, o0 + k, none⟩) hb0).trans hc0
            have bs := BS.out k
            have hokk := OK.out k hlt
            obtain ⟨s, hs⟩ : ∃ s, S k = s := ⟨_, rfl⟩
            rw [hs] at g0 bs
            have HS : Hid (S k = s) := hs
            have HO : Hid _ := hokk
            clear hs hokk hc0
            by_cases h3 : s < 3
            · have ht : tgtF S P T k = 0 := by rw [tgtF, HS.out, if_pos h3]
              have HT : Hid _ := ht
              clear ht
              go_wp2_with fail
              refine (tgt10 sb l1 m k S P T _ hn hm hst.out hlt HO.out.1 (BP.out k).1 (fun h => (HO.out.2 h).1)).mono ?_
              rintro e w3 ⟨rfl, nq, rfl⟩
              rw [HT.out]
              go_wp2
              go_roundg (l1 - (k + 1))
              case measure => omega
              case rel => exact ⟨k + 1, by omega, rfl, by go_num, hst.out.drewN _, below_drewN hb.out _⟩
            · by_cases h6 : s ≤ 6
              · have e1 : ((k : Int) + 1 == 0) = false := beq_eq_false_iff_ne.2 (by omega)
                have e1' : ((k : Int) + 1 != 0) = true := by rw [bne_iff_ne]; omega
                have e2 : decide (s < 3) = false := decide_eq_false h3
                have e3 : decide (3 ≤ s) = true := decide_eq_true (by omega)
                have e4 : decide (s ≤ 6) = true := decide_eq_true h6
                have ht : tgtF S P T k = (k : Int) + 1 := by rw [tgtF, HS.out, if_neg h3, if_pos h6]
                have HT : Hid _ := ht
                clear ht
                go_wp2_with fail
                refine (tgt10 sb l1 m k S P T _ hn hm hst.out hlt HO.out.1 (BP.out k).1 (fun h => (HO.out.2 h).1)).mono ?_
                rintro e w3 ⟨rfl, nq, rfl⟩
                rw [HT.out]
                go_wp2_with fail
                refine (tgt10 sb l1 m k S P T _ hn hm (hst.out.drewN _) hlt HO.out.1 (BP.out k).1 (fun h => (HO.out.2 h).1)).mono ?_
                rintro e w4 ⟨rfl, nq', rfl⟩
                rw [HT.out]
                go_wp2
                go_roundg (l1 - (k + 1))
                case measure => omega
                case rel => exact ⟨k + 1, by omega, rfl, by go_num, hst.out.drewN _, below_drewN hb.out _⟩
              · obtain ⟨i, hik, HT, HI, HOI⟩ := cnt_case OK.out hlt HS.out (by omega) h6
                have hil : i < l1 := by omega
                have e1 : ((i : Int) + 1 == 0) = false := beq_eq_false_iff_ne.2 (by omega)
                have e1' : ((i : Int) + 1 != 0) = true := by rw [bne_iff_ne]; omega
                have e2 : decide (s < 3) = false := decide_eq_false h3
                have e3 : decide (3 ≤ s) = true := decide_eq_true (by omega)
                have e4 : decide (s ≤ 6) = false := decide_eq_false h6
                have e5 : ((i : Int) + 1 == (k : Int) + 1) = false := beq_eq_false_iff_ne.2 (by omega)
                go_wp2_with fail
                refine (tgt10 sb l1 m k S P T _ hn hm hst.out hlt HO.out.1 (BP.out k).1 (fun h => (HO.out.2 h).1)).mono ?_
                rintro e w3 ⟨rfl, nq, rfl⟩
                rw [HT.out]
                go_wp2_with fail
                refine (tgt10 sb l1 m i S P T _ hn hm (hst.out.drewN _) hil HOI.out.1 (BP.out i).1 (fun h => (HOI.out.2 h).1)).mono ?_
                rintro e w4 ⟨rfl, nq', rfl⟩
                rw [HI.out]
                go_wp2
                go_roundg (l1 - (k + 1))
                case measure => omega
                case rel => exact ⟨k + 1, by omega, rfl, by go_num, hst.out.drewN _, below_drewN hb.out _⟩
          · go_wp2
            go_ret
            exact ⟨rfl, hb.out⟩
  · go_enter Try.func3, Try.ntmps3
    go_wp2_with fail
    refine B7.mono ?_
    rintro e w' ⟨r, rfl, rfl⟩
    cases r
    · go_wp2
      go_ret
      exact ⟨rfl, Below.refl _ _⟩
    · go_wp2_with fail
      all_goals
        go_ret
        exact ⟨rfl, Below.refl _ _⟩
end Go.Proofs.Qxb6604360a
