import Derived.Test.Qxb6604360aAnch
/- zzBytes (11) and the law FnTargetIsInheritedFromTheAnchor (4). -/
namespace Go.Proofs.Qxb6604360a
open Go.RowKit Go.Deep
set_option linter.unusedVariables false

theorem bytes11 (a0 a1 a2 a3 : Option Addr) (n0 c0 n1 c1 n2 c2 n3 c3 : Nat) (w : World) (h0 : n0 ≤ maxLen) (h1 : n1 ≤ maxLen) (h2 : n2 ≤ maxLen) (h3 : n3 ≤ maxLen) :
    Calls Try.prog 11 #[.slice a0 n0 c0, .slice a1 n1 c1, .slice a2 n2 c2, .slice a3 n3 c3] w fun e w' => ∃ r, e = .returned (.bool r) ∧ w' = w := by
  unfold maxLen at h0 h1 h2 h3
  go_enter Try.func11, Try.ntmps11
  go_wp2
  all_goals
    go_ret
    exact ⟨_, rfl, rfl⟩

/-- No target lies behind its change; that of a change of shape 7 lies ahead of it. -/
theorem tgt_le {S P T A : Nat → Int} {l m : Nat} (hok : ∀ i, i < l → OkA S P T A m i) : ∀ b i, i < b → i < l → 3 ≤ S i → tgtF S P T i ≤ (i : Int) + 1
  | 0, i, h, _, _ => absurd h (Nat.not_lt_zero _)
  | b + 1, i, hb, hi, h3 => by
    by_cases h6 : S i ≤ 6
    · rw [tgtF, if_neg (by omega), if_pos h6]; omega
    · obtain ⟨h7, hc⟩ := hok i hi
      obtain ⟨a1, ak, hs, hp, ht⟩ := hc (by omega)
      have := tgt_le hok b ((A i).toNat - 1) (by omega) (by omega) hs
      rw [tgtF, if_neg (by omega), if_neg h6, ht]
      omega

/-- A change of shape 7: its target is its anchor's, and lies ahead of it. -/
theorem anch_case {S P T A : Nat → Int} {l m k : Nat} {s : Int} (hok : ∀ i, i < l → OkA S P T A m i) (hk : k < l) (hs : S k = s) (h3 : ¬ s < 3) (h6 : ¬ s ≤ 6) :
    ∃ i, i < k ∧ Hid (A k = (i : Int) + 1) ∧ Hid (tgtF S P T i = tgtF S P T k) ∧ tgtF S P T k ≤ (k : Int) ∧ Hid (OkA S P T A m i) := by
  obtain ⟨h7, hc⟩ := hok k hk
  obtain ⟨a1, ak, hs3, hp, ht⟩ := hc (by omega)
  have hle := tgt_le hok l ((A k).toNat - 1) (by omega) (by omega) hs3
  have he : tgtF S P T ((A k).toNat - 1) = tgtF S P T k := by
    rw [← ht]
    conv => rhs; rw [tgtF, if_neg (by omega), if_neg (by omega)]
  exact ⟨(A k).toNat - 1, by omega, by show _ = _; omega, he, by omega, hok _ (by omega)⟩

set_option maxRecDepth 100000 in
set_option maxHeartbeats 1600000 in
theorem law4 (a0 a1 a2 a3 : Option Addr) (n c0 l1 c1 l2 c2 m c3 : Nat) (S P A T : Nat → Int) (w : World) (hx0 : n ≤ maxLen) (hx1 : l1 ≤ maxLen) (hx2 : l2 ≤ maxLen) (hx3 : m ≤ maxLen)
    (r0 : Row .u8 w a0 n S) (r1 : Row .u32 w a1 l1 P) (r2 : Row .u32 w a2 l2 A) (r3 : Row .u32 w a3 m T)
    (bS : ∀ i, 0 ≤ S i ∧ S i ≤ 255) (bP : ∀ i, 0 ≤ P i ∧ P i ≤ 4294967295) (bA : ∀ i, 0 ≤ A i ∧ A i ≤ 4294967295) (bT : ∀ i, 0 ≤ T i ∧ T i ≤ 4294967295) :
    Calls Try.prog 4 #[.slice a0 n c0, .slice a1 l1 c1, .slice a2 l2 c2, .slice a3 m c3] w fun e w' => e = .returned (.bool true) ∧ Below w.heap.size w w' := by
  have B7 := bytes11 a0 a1 a2 a3 n c0 l1 c1 l2 c2 m c3 w hx0 hx1 hx2 hx3
  unfold maxLen at hx0 hx1 hx2 hx3
  have R0 : Hid (Row .u8 w a0 n S) := r0
  have R1 : Hid (Row .u32 w a1 l1 P) := r1
  have R2 : Hid (Row .u32 w a2 l2 A) := r2
  have R3 : Hid (Row .u32 w a3 m T) := r3
  have BS : Hid (∀ i, 0 ≤ S i ∧ S i ≤ 255) := bS
  have BP : Hid (∀ i, 0 ≤ P i ∧ P i ≤ 4294967295) := bP
  have BA : Hid (∀ i, 0 ≤ A i ∧ A i ≤ 4294967295) := bA
  have BT : Hid (∀ i, 0 ≤ T i ∧ T i ≤ 4294967295) := bT
  clear r0 r1 r2 r3 bS bP bA bT
  by_cases hz : n ≤ 65536 ∧ l1 ≤ 65536 ∧ l2 ≤ 65536 ∧ m ≤ 65536
  · obtain ⟨hn, hl, hl2, hm⟩ := hz
    have q0 : ¬ (65536 : Int) < (n : Int) := by omega
    have q1 : ¬ (65536 : Int) < (l1 : Int) := by omega
    have q2 : ¬ (65536 : Int) < (l2 : Int) := by omega
    have q3 : ¬ (65536 : Int) < (m : Int) := by omega
    go_enter Try.func4, Try.ntmps4
    go_wp2_with fail
    refine B7.mono ?_
    rintro e w' ⟨r, rfl, rfl⟩
    cases r
    · go_wp2
      go_ret
      exact ⟨rfl, Below.refl _ _⟩
    · go_wp2_with fail
      refine (anch12 a0 a1 a2 a3 n c0 l1 c1 l2 c2 m c3 S P A T _ hn hl hl2 hm R0.out R1.out R2.out R3.out BS.out BP.out BA.out BT.out).mono ?_
      rintro e w1 ⟨r, rfl, hb1, hr⟩
      cases r
      · clear hr
        go_wp2
        go_ret
        exact ⟨rfl, hb1⟩
      · obtain ⟨rfl, rfl, hok⟩ := hr rfl
        have OK : Hid (∀ i, i < l2 → OkA S P T A m i) := hok
        have HB1 : Hid _ := hb1
        clear hr hok hb1
        go_wp2_with fail
        refine (built a0 a1 a2 a3 l2 c0 c1 l2 c2 m c3 S P A T _ hn hm hn (R0.out.below HB1.out) (R1.out.below HB1.out) (R2.out.below HB1.out) (R3.out.below HB1.out)).mono ?_
        rintro e w2 ⟨sb, rfl, hb2, hst⟩
        have HB2 : Hid (Below w'.heap.size w' w2) := HB1.out.trans (hb2.mono HB1.out.size)
        have HST : Hid (StoreAt w2 sb l2 m S P T) := hst
        clear hb2 hst
        go_wp2
        go_loopg [10] l2 (fun g d wr => ∃ k : Nat, k ≤ l2 ∧ g = l2 - k ∧ d = .int .i64 ((k : Int) + 1) ∧ Hid (StoreAt wr sb l2 m S P T) ∧ Hid (Below w'.heap.size w' wr))
        case atStart => exact ⟨0, Nat.zero_le _, rfl, rfl, HST, HB2⟩
        case round =>
          obtain ⟨k, hk, rfl, rfl, hst, hb⟩ := hrel
          by_cases hlt : k < l2
          · obtain ⟨b0, o0, rfl, hb0, hc0⟩ := R0.out k hlt
            have g0 : wr.cell? ⟨b0, o0 + k, none⟩ = some (.int .u8 (S k)) := (hb.out.cell (p := ⟨b0, o0 + k, none⟩) hb0).trans hc0
            obtain ⟨b2, o2, rfl, hb2, hc2⟩ := R2.out k hlt
            have g1 : wr.cell? ⟨b2, o2 + k, none⟩ = some (.int .u32 (A k)) := (hb.out.cell (p := ⟨b2, o2 + k, none⟩) hb2).trans hc2
            have bs := BS.out k
            have hokk := OK.out k hlt
            obtain ⟨s, hs⟩ : ∃ s, S k = s := ⟨_, rfl⟩
            rw [hs] at g0 bs
            have HS : Hid (S k = s) := hs
            have HO : Hid _ := hokk
            clear hs hokk hc0 hc2
            by_cases h3 : s < 3
            · have HT : Hid (tgtF S P T k = 0) := by show _ = _; rw [tgtF, HS.out, if_pos h3]
              go_wp2_with fail
              refine (tgt10 sb l2 m k S P T _ hn hm hst.out hlt HO.out.1 (BP.out k).1 (fun h => (HO.out.2 h).2.2.2.1)).mono ?_
              rintro e w3 ⟨rfl, nq, rfl⟩
              rw [HT.out]
              go_wp2
              go_roundg (l2 - (k + 1))
              case measure => omega
              case rel => exact ⟨k + 1, by omega, rfl, by go_num, hst.out.drewN _, below_drewN hb.out _⟩
            · by_cases h6 : s ≤ 6
              · have HT : Hid (tgtF S P T k = (k : Int) + 1) := by show _ = _; rw [tgtF, HS.out, if_neg h3, if_pos h6]
                have e1 : ((k : Int) + 1 != (k : Int) + 1) = false := by simp
                go_wp2_with fail
                refine (tgt10 sb l2 m k S P T _ hn hm hst.out hlt HO.out.1 (BP.out k).1 (fun h => (HO.out.2 h).2.2.2.1)).mono ?_
                rintro e w3 ⟨rfl, nq, rfl⟩
                rw [HT.out]
                go_wp2
                go_roundg (l2 - (k + 1))
                case measure => omega
                case rel => exact ⟨k + 1, by omega, rfl, by go_num, hst.out.drewN _, below_drewN hb.out _⟩
              · obtain ⟨i, hik, HA, HI, hle, HOI⟩ := anch_case OK.out hlt HS.out (by omega) h6
                have hil : i < l2 := by omega
                rw [HA.out] at g1
                obtain ⟨t, ht⟩ : ∃ t, tgtF S P T k = t := ⟨_, rfl⟩
                rw [ht] at hle
                have HT : Hid (tgtF S P T k = t) := ht
                have HTI : Hid (tgtF S P T i = t) := HI.out.trans ht
                clear ht
                have e1 : (t != t) = false := by simp
                have e2 : (t == (k : Int) + 1) = false := beq_eq_false_iff_ne.2 (by omega)
                go_wp2_with fail
                refine (tgt10 sb l2 m k S P T _ hn hm hst.out hlt HO.out.1 (BP.out k).1 (fun h => (HO.out.2 h).2.2.2.1)).mono ?_
                rintro e w3 ⟨rfl, nq, rfl⟩
                rw [HT.out]
                go_wp2_with fail
                refine (tgt10 sb l2 m i S P T _ hn hm (hst.out.drewN _) hil HOI.out.1 (BP.out i).1 (fun h => (HOI.out.2 h).2.2.2.1)).mono ?_
                rintro e w4 ⟨rfl, nq', rfl⟩
                rw [HTI.out]
                go_wp2
                go_roundg (l2 - (k + 1))
                case measure => omega
                case rel => exact ⟨k + 1, by omega, rfl, by go_num, hst.out.drewN _, below_drewN hb.out _⟩
          · go_wp2
            go_ret
            exact ⟨rfl, hb.out⟩
  · go_enter Try.func4, Try.ntmps4
    go_wp2_with fail
    refine B7.mono ?_
    rintro e w' ⟨r, rfl, rfl⟩
    cases r
    · go_wp2
      go_ret
      exact ⟨rfl, Below.refl _ _⟩
    · go_wp2_with fail
      all_goals
        go_ret
        exact ⟨rfl, Below.refl _ _⟩
end Go.Proofs.Qxb6604360a
