import Derived.Test.Qxb6602886aSkipB
namespace Go.Proofs.Qxb6602886a
open Go.RowKit Go.Deep
set_option linter.unusedVariables false

theorem KS.as {w wr : World} {rb k k' : Nat} (h : KS w wr rb k) (e : k = k') : KS w wr rb k' := e ▸ h
section
variable {B : Nat → Int} {n i j0 d1 d2 d3 e1 e3 f g : Nat}
theorem frac_some (h : drun B n (e1 + 1) = e1 + 1 + d2) (hf : e1 < n ∧ B e1 = 46) (z : ¬ d2 = 0) : fracF B n e1 = some (e1 + 1 + d2) := by
  rw [fracF, if_pos hf, h, if_neg (by omega)]
theorem frac_none (h : drun B n (e1 + 1) = e1 + 1 + d2) (hf : e1 < n ∧ B e1 = 46) (z : d2 = 0) : fracF B n e1 = none := by
  rw [fracF, if_pos hf, h, if_pos (by omega)]
theorem frac_skip (hf : ¬ (e1 < n ∧ B e1 = 46)) : fracF B n e1 = some e1 := by rw [fracF, if_neg hf]
theorem exp_skip (he : ¬ (f < n ∧ (B f = 101 ∨ B f = 69))) : expF B n f = some f := by rw [expF, if_neg he]
theorem exp_some (he : f < n ∧ (B f = 101 ∨ B f = 69)) (h : drun B n (signF B n f) = signF B n f + d3) (z : ¬ d3 = 0) : expF B n f = some (signF B n f + d3) := by
  rw [expF, if_pos he, h, if_neg (by omega)]
theorem exp_none (he : f < n ∧ (B f = 101 ∨ B f = 69)) (h : drun B n (signF B n f) = signF B n f + d3) (z : d3 = 0) : expF B n f = none := by
  rw [expF, if_pos he, h, if_pos (by omega)]
theorem sign_yes (h : f + 1 = e3) (hs : e3 < n ∧ (B e3 = 43 ∨ B e3 = 45)) : signF B n f = e3 + 1 := by
  subst h; rw [signF, if_pos hs]
theorem sign_no (h : f + 1 = e3) (hs : ¬ (e3 < n ∧ (B e3 = 43 ∨ B e3 = 45))) : signF B n f = e3 := by
  subst h; rw [signF, if_neg hs]
theorem sign_le (h : f < n) : signF B n f ≤ n := by
  unfold signF; split <;> omega
theorem skip_zero (hj : headF B i = j0) (hd : drun B n j0 = j0 + d1) (z : d1 = 0) : skipF B n i = none := by
  rw [skipF, hj, hd, if_pos (Or.inl (by omega))]
theorem skip_lead (hj : headF B i = j0) (hd : drun B n j0 = j0 + d1) (q : 1 < d1) (l : B j0 = 48) : skipF B n i = none := by
  rw [skipF, hj, hd, if_pos (Or.inr ⟨by omega, l⟩)]
theorem not_bad (z : ¬ d1 = 0) (hok : ¬ (1 < d1 ∧ B j0 = 48)) : ¬ (j0 + d1 = j0 ∨ (j0 + 1 < j0 + d1 ∧ B j0 = 48)) := by
  rintro (h | h)
  · omega
  · exact hok ⟨by omega, h.2⟩
theorem skip_frac (hj : headF B i = j0) (hd : drun B n j0 = j0 + d1) (z : ¬ d1 = 0) (hok : ¬ (1 < d1 ∧ B j0 = 48)) (he : j0 + d1 = e1) (hf : fracF B n e1 = none) : skipF B n i = none := by
  rw [skipF, hj, hd, if_neg (not_bad z hok), he, hf]; rfl
theorem skip_exp (hj : headF B i = j0) (hd : drun B n j0 = j0 + d1) (z : ¬ d1 = 0) (hok : ¬ (1 < d1 ∧ B j0 = 48)) (he : j0 + d1 = e1) (hf : fracF B n e1 = some f) (hg : expF B n f = none) : skipF B n i = none := by
  rw [skipF, hj, hd, if_neg (not_bad z hok), he, hf]; exact hg
theorem skip_some (hj : headF B i = j0) (hd : drun B n j0 = j0 + d1) (z : ¬ d1 = 0) (hok : ¬ (1 < d1 ∧ B j0 = 48)) (he : j0 + d1 = e1) (hf : fracF B n e1 = some f) (hg : expF B n f = some g) : skipF B n i = some g := by
  rw [skipF, hj, hd, if_neg (not_bad z hok), he, hf]; exact hg
end

set_option maxRecDepth 100000 in
set_option maxHeartbeats 3200000 in
theorem skip25 (rb n c i : Nat) (a : Option Addr) (bad : Bool) (B : Nat → Int) (w : World) (hR : Rd w rb n c a i bad B) (hi : i < n) :
    Calls Try.prog 25 #[.pointer (some ⟨rb, 0, none⟩)] w fun e w' => e = .returned (.tuple #[]) ∧ SkipPost w w' rb n bad (skipF B n i) := by
  obtain ⟨sk, hsk⟩ : ∃ sk, skipF B n i = sk := ⟨_, rfl⟩
  rw [hsk]
  have HS : Hid (skipF B n i = sk) := hsk
  clear hsk
  have HR : Hid (Rd w rb n c a i bad B) := hR
  have hn := hR.n_le
  have hrlt := hR.lt
  have q0 := cellOf hR.r 1 (v := .int .i64 i) rfl
  have q1 : (w.alloc (.cells #[.pointer (some ⟨rb, 0, none⟩)] 46)).cell? ⟨rb, 1, none⟩ = some (.int .i64 i) := by rw [World.cell?_alloc_lt _ _ _ hrlt]; exact q0
  clear q0 hR
  have hmf : ∀ (fn : Fn) (first cap : Array Value) (w : World), (Instr.makeFunc fn first cap).run Try.prog w = .ok (.func fn first cap) w := fun _ _ _ _ => rfl
  have HK : Hid (KS w ((w.alloc (.cells #[.pointer (some ⟨rb, 0, none⟩)] 46)).alloc (.cells #[.int .i64 i] 3)) rb i) := KS.start w rb i
  obtain ⟨f0, f1, f2, f3, f4, f5, f6, f7⟩ := HR.out.facts HK.out
  obtain ⟨b, o, rfl, hc⟩ := HR.out.rowAt HK.out hi
  go_enter Try.func25, Try.ntmps25
  go_wp2
  go_quiet (fail)
  go_upto_if 16 with fail
  go_cut [] (fun wc => Hid (KS w wc rb (headF B i)))
  case first => as_aux_lemma =>
    by_cases hm : B i = 45
    · have hm' : (B i == 45) = true := by simp [hm]
      go_wp2
      go_meet
      case rel => exact (HK.out.drewN _).put _ (by simp [headF, hm])
    · have hm' : (B i == 45) = false := by simp [hm]
      go_wp2
      go_meet
      case rel =>
        exact (HK.out.drewN _).as (by simp [headF, hm])
  case rest =>
    clear HK f0 f1 f2 f3 f4 f5 f6 f7 hc q1
    have hj0 : headF B i ≤ n := by unfold headF; split <;> omega
    obtain ⟨j0, hj⟩ : ∃ j0, headF B i = j0 := ⟨_, rfl⟩
    have HK : Hid (KS w wc rb j0) := by rw [← hj]; exact hcut
    rw [hj] at hj0
    have HJ : Hid (headF B i = j0) := hj
    clear hj hcut
    obtain ⟨d1, hd1⟩ : ∃ d1, drun B n j0 = j0 + d1 := ⟨drun B n j0 - j0, by have := drun_le B n j0 hj0; omega⟩
    have hle1 : j0 + d1 ≤ n := by rw [← hd1]; exact (drun_le B n j0 hj0).2
    have HD1 : Hid (drun B n j0 = j0 + d1) := hd1
    clear hd1
    go_wp2_with fail
    refine (HR.out.dig HK.out d1 HD1.out hj0).mono ?_
    rintro e w1 ⟨rfl, hk⟩
    have HK1 : Hid (KS w w1 rb (j0 + d1)) := hk
    clear hk HK
    obtain ⟨f0, f1, f2, f3, f4, f5, f6, f7⟩ := HR.out.facts HK1.out
    by_cases z : d1 = 0
    · have z' : ((d1 : Int) == 0) = true := by simp [z]
      go_wp2_with fail
      refine (fail27 rb n c _ _ _ _ f3 f4 f5 f6 f7).mono ?_
      rintro e wf ⟨rfl, rfl⟩
      go_wp2
      (try simp only [Exit.inBlock, Exit.then])
      refine bodyPost_ret (results_none rfl _ _ _) rfl ?_
      exact ⟨rfl, by rw [← HS.out, skip_zero HJ.out HD1.out z]; exact SkipPost.fail HR.out HK1.out⟩
    have z' : ((d1 : Int) == 0) = false := by simp [z]
    have hrow0 : j0 < n := by omega
    go_upto_region 7 with fail
    go_cut [22] (fun s wc => s = .bool (decide (1 < d1 ∧ B j0 = 48)) ∧ Hid (KS w wc rb (j0 + d1)))
    case first => as_aux_lemma =>
      by_cases q : 1 < d1
      · have q' : decide (1 < (d1 : Int)) = true := by simp; omega
        obtain ⟨b', o', hbo, hc⟩ := HR.out.rowAt HK1.out hrow0
        cases hbo
        by_cases l : B j0 = 48
        · have l' : (B j0 == 48) = true := by simp [l]
          go_quiet (fail)
          go_wp2
          go_meet
          case rel => exact ⟨by simp [q, l], HK1.out.drewN _⟩
        · have l' : (B j0 == 48) = false := by simp [l]
          go_quiet (fail)
          go_wp2
          go_meet
          case rel => exact ⟨by simp [l], HK1.out.drewN _⟩
      · have q' : decide (1 < (d1 : Int)) = false := by simp; omega
        go_quiet (fail)
        go_wp2
        go_meet
        case rel => exact ⟨by simp [q], HK1.out.drewN _⟩
    case rest =>
      obtain ⟨rfl, HKs⟩ := hcut
      clear f0 f1 f2 f3 f4 f5 f6 f7 HK1
      obtain ⟨f0, f1, f2, f3, f4, f5, f6, f7⟩ := HR.out.facts HKs.out
      by_cases L : 1 < d1 ∧ B j0 = 48
      · have L' : decide (1 < d1 ∧ B j0 = 48) = true := by simp only [decide_eq_true_eq]; exact L
        go_wp2_with fail
        refine (fail27 rb n c _ _ _ _ f3 f4 f5 f6 f7).mono ?_
        rintro e wf ⟨rfl, rfl⟩
        go_wp2
        (try simp only [Exit.inBlock, Exit.then])
        refine bodyPost_ret (results_none rfl _ _ _) rfl ?_
        exact ⟨rfl, by rw [← HS.out, skip_lead HJ.out HD1.out L.1 L.2]; exact SkipPost.fail HR.out HKs.out⟩
      · have L' : decide (1 < d1 ∧ B j0 = 48) = false := by simp only [decide_eq_false_iff_not]; exact L
        rw [L']
        clear L'
        obtain ⟨e1, he1⟩ : ∃ e1, j0 + d1 = e1 := ⟨_, rfl⟩
        have hle1' : e1 ≤ n := by omega
        have HE1 : Hid (j0 + d1 = e1) := he1
        clear he1
        go_upto_region 9 with fail
        have HKe0 : KS w wc rb e1 := HKs.out.as HE1.out
        clear f0 f1 f2 f3 f4 f5 f6 f7
        obtain ⟨wz, rfl⟩ : ∃ wz, wz = wc := ⟨_, rfl⟩
        have HKe : Hid (KS w wz rb e1) := HKe0
        clear HKe0
        obtain ⟨f0, f1, f2, f3, f4, f5, f6, f7⟩ := HR.out.facts HKe.out
        go_cut [57] (fun s wc => s = .bool (decide (e1 < n ∧ B (e1) = 46)) ∧ Hid (KS w wc rb (e1)))
        case first => as_aux_lemma =>
          by_cases h1 : e1 < n
          · obtain ⟨b', o', hbo, hc⟩ := HR.out.rowAt HKe.out h1
            cases hbo
            by_cases h2 : B (e1) = 46
            · have h2' : (B (e1) == 46) = true := by simp [h2]
              go_quiet (fail)
              go_wp2
              go_meet
              case rel => exact ⟨by simp [h1, h2], HKe.out.drewN _⟩
            · have h2' : (B (e1) == 46) = false := by simp [h2]
              go_quiet (fail)
              go_wp2
              go_meet
              case rel => exact ⟨by simp [h1, h2], HKe.out.drewN _⟩
          · have h1' : decide ((e1 : Int) < n) = false := by simp; omega
            go_quiet (fail)
            go_wp2
            go_meet
            case rel => exact ⟨by simp [h1], HKe.out.drewN _⟩
        case rest =>
          obtain ⟨rfl, HK2⟩ := hcut
          clear f0 f1 f2 f3 f4 f5 f6 f7
          obtain ⟨f0, f1, f2, f3, f4, f5, f6, f7⟩ := HR.out.facts HK2.out
          have HFe : Hid (fracF B n (e1) = fracF B n (e1)) := rfl
          go_upto_if 57 with fail
          go_cut [] (fun wc => ∃ f, f ≤ n ∧ Hid (fracF B n (e1) = some f) ∧ Hid (KS w wc rb f))
          case first => as_aux_lemma =>
            by_cases hf : e1 < n ∧ B (e1) = 46
            · have hf' : decide (e1 < n ∧ B (e1) = 46) = true := by simp [hf]
              obtain ⟨d2, hd2⟩ : ∃ d2, drun B n (e1 + 1) = e1 + 1 + d2 := ⟨drun B n (e1 + 1) - (e1 + 1), by have := drun_le B n (e1 + 1) (by omega); omega⟩
              have hle2 : e1 + 1 + d2 ≤ n := by rw [← hd2]; exact (drun_le B n (e1 + 1) (by omega)).2
              have HD2 : Hid (drun B n (e1 + 1) = e1 + 1 + d2) := hd2
              clear hd2
              go_wp2_with fail
              refine (HR.out.dig (HK2.out.put (k' := e1 + 1) _ (by push_cast; rfl)) d2 HD2.out (by omega)).mono ?_
              rintro e w3 ⟨rfl, hk⟩
              have HK3 : Hid (KS w w3 rb (e1 + 1 + d2)) := hk
              clear hk f0 f1 f2 f3 f4 f5 f6 f7
              obtain ⟨f0, f1, f2, f3, f4, f5, f6, f7⟩ := HR.out.facts HK3.out
              by_cases z2 : d2 = 0
              · have z2' : ((d2 : Int) == 0) = true := by simp [z2]
                go_wp2_with fail
                refine (fail27 rb n c _ _ _ _ f3 f4 f5 f6 f7).mono ?_
                rintro e wf ⟨rfl, rfl⟩
                go_wp2
                (try simp only [Exit.inBlock, Exit.then])
                refine bodyPost_ret (results_none rfl _ _ _) rfl ?_
                exact ⟨rfl, by rw [← HS.out, skip_frac HJ.out HD1.out z L HE1.out (frac_none HD2.out hf z2)]; exact SkipPost.fail HR.out HK3.out⟩
              · have z2' : ((d2 : Int) == 0) = false := by simp [z2]
                go_wp2
                go_meet
                case rel => exact ⟨_, hle2, frac_some HD2.out hf z2, HK3.out⟩
            · have hf' : decide (e1 < n ∧ B (e1) = 46) = false := by simp only [decide_eq_false_iff_not]; exact hf
              go_wp2
              go_meet
              case rel => exact ⟨_, hle1', frac_skip hf, HK2.out⟩
          case rest =>
            clear f0 f1 f2 f3 f4 f5 f6 f7
            obtain ⟨f, hfn, HF, HK3⟩ := hcut
            obtain ⟨f0, f1, f2, f3, f4, f5, f6, f7⟩ := HR.out.facts HK3.out
            go_upto_region 13 with fail
            go_cut [91] (fun s wc => s = .bool (decide (f < n ∧ (B f = 101 ∨ B f = 69))) ∧ Hid (KS w wc rb f))
            case first => as_aux_lemma =>
              by_cases h1 : f < n
              · obtain ⟨b', o', hbo, hc⟩ := HR.out.rowAt HK3.out h1
                cases hbo
                by_cases h2 : B f = 101
                · have h2' : (B f == 101) = true := by simp [h2]
                  go_quiet (fail)
                  go_wp2
                  go_meet
                  case rel => exact ⟨by simp [h1, h2], HK3.out.drewN _⟩
                · have h2' : (B f == 101) = false := by simp [h2]
                  by_cases h3 : B f = 69
                  · have h3' : (B f == 69) = true := by simp [h3]
                    go_quiet (fail)
                    go_wp2
                    go_meet
                    case rel => exact ⟨by simp [h1, h3], HK3.out.drewN _⟩
                  · have h3' : (B f == 69) = false := by simp [h3]
                    go_quiet (fail)
                    go_wp2
                    go_meet
                    case rel => exact ⟨by simp [h1, h2, h3], HK3.out.drewN _⟩
              · have h1' : decide ((f : Int) < n) = false := by simp; omega
                go_quiet (fail)
                go_wp2
                go_meet
                case rel => exact ⟨by simp [h1], HK3.out.drewN _⟩
            case rest =>
              obtain ⟨rfl, HK4⟩ := hcut
              clear f0 f1 f2 f3 f4 f5 f6 f7
              obtain ⟨f0, f1, f2, f3, f4, f5, f6, f7⟩ := HR.out.facts HK4.out
              go_upto_if 91 with fail
              go_cut [] (fun wc => ∃ g, Hid (expF B n f = some g) ∧ Hid (KS w wc rb g))
              case first => as_aux_lemma =>
                by_cases he : f < n ∧ (B f = 101 ∨ B f = 69)
                · have he' : decide (f < n ∧ (B f = 101 ∨ B f = 69)) = true := by simp only [decide_eq_true_eq]; exact he
                  have hf1 : f + 1 ≤ n := he.1
                  obtain ⟨e3, he3⟩ : ∃ e3, f + 1 = e3 := ⟨_, rfl⟩
                  go_upto_region 15 with fail
                  have HK50 : KS w (wc.setCell ⟨w.heap.size + 1, 0, none⟩ (.int .i64 ((f : Int) + 1))) rb e3 := HK4.out.put _ (by rw [← he3]; push_cast; rfl)
                  have he3n : e3 ≤ n := by omega
                  have HE3 : Hid (f + 1 = e3) := he3
                  clear f0 f1 f2 f3 f4 f5 f6 f7 he3
                  generalize wc.setCell ⟨w.heap.size + 1, 0, none⟩ (.int .i64 ((f : Int) + 1)) = wy at HK50 ⊢
                  have HK5 : Hid (KS w wy rb e3) := HK50
                  clear HK50
                  obtain ⟨f0, f1, f2, f3, f4, f5, f6, f7⟩ := HR.out.facts HK5.out
                  go_cut [120] (fun s wc => s = .bool (decide (e3 < n ∧ (B e3 = 43 ∨ B e3 = 45))) ∧ Hid (KS w wc rb e3))
                  case first => as_aux_lemma =>
                    by_cases h1 : e3 < n
                    · obtain ⟨b', o', hbo, hc⟩ := HR.out.rowAt HK5.out h1
                      cases hbo
                      by_cases h2 : B e3 = 43
                      · have h2' : (B e3 == 43) = true := by simp [h2]
                        go_quiet (fail)
                        go_wp2
                        go_meet
                        case rel => exact ⟨by simp [h1, h2], HK5.out.drewN _⟩
                      · have h2' : (B e3 == 43) = false := by simp [h2]
                        by_cases h3 : B e3 = 45
                        · have h3' : (B e3 == 45) = true := by simp [h3]
                          go_quiet (fail)
                          go_wp2
                          go_meet
                          case rel => exact ⟨by simp [h1, h3], HK5.out.drewN _⟩
                        · have h3' : (B e3 == 45) = false := by simp [h3]
                          go_quiet (fail)
                          go_wp2
                          go_meet
                          case rel => exact ⟨by simp [h1, h2, h3], HK5.out.drewN _⟩
                    · have h1' : decide ((e3 : Int) < n) = false := by simp; omega
                      go_quiet (fail)
                      go_wp2
                      go_meet
                      case rel => exact ⟨by simp [h1], HK5.out.drewN _⟩
                  case rest =>
                    obtain ⟨rfl, HK6⟩ := hcut
                    clear f0 f1 f2 f3 f4 f5 f6 f7
                    obtain ⟨f0, f1, f2, f3, f4, f5, f6, f7⟩ := HR.out.facts HK6.out
                    go_upto_if 120 with fail
                    go_cut [] (fun wc => Hid (KS w wc rb (signF B n f)))
                    case first => as_aux_lemma =>
                      by_cases hs : e3 < n ∧ (B e3 = 43 ∨ B e3 = 45)
                      · have hs' : decide (e3 < n ∧ (B e3 = 43 ∨ B e3 = 45)) = true := by simp only [decide_eq_true_eq]; exact hs
                        go_wp2
                        go_meet
                        case rel => exact HK6.out.put _ (by rw [sign_yes HE3.out hs]; push_cast; rfl)
                      · have hs' : decide (e3 < n ∧ (B e3 = 43 ∨ B e3 = 45)) = false := by simp only [decide_eq_false_iff_not]; exact hs
                        go_wp2
                        go_meet
                        case rel => exact HK6.out.as (sign_no HE3.out hs).symm
                    case rest =>
                      clear f0 f1 f2 f3 f4 f5 f6 f7
                      have hsn : signF B n f ≤ n := sign_le he.1
                      obtain ⟨d3, hd3⟩ : ∃ d3, drun B n (signF B n f) = signF B n f + d3 := ⟨drun B n (signF B n f) - signF B n f, by have := drun_le B n (signF B n f) hsn; omega⟩
                      have HD3 : Hid (drun B n (signF B n f) = signF B n f + d3) := hd3
                      clear hd3
                      have HK7 := hcut
                      obtain ⟨f0, f1, f2, f3, f4, f5, f6, f7⟩ := HR.out.facts HK7.out
                      go_wp2_with fail
                      refine (HR.out.dig HK7.out d3 HD3.out hsn).mono ?_
                      rintro e w8 ⟨rfl, hk⟩
                      have HK8 : Hid (KS w w8 rb (signF B n f + d3)) := hk
                      clear hk f0 f1 f2 f3 f4 f5 f6 f7
                      obtain ⟨f0, f1, f2, f3, f4, f5, f6, f7⟩ := HR.out.facts HK8.out
                      by_cases z3 : d3 = 0
                      · have z3' : ((d3 : Int) == 0) = true := by simp [z3]
                        go_wp2_with fail
                        refine (fail27 rb n c _ _ _ _ f3 f4 f5 f6 f7).mono ?_
                        rintro e wf ⟨rfl, rfl⟩
                        go_wp2
                        (try simp only [Exit.inBlock, Exit.then])
                        refine bodyPost_ret (results_none rfl _ _ _) rfl ?_
                        exact ⟨rfl, by rw [← HS.out, skip_exp HJ.out HD1.out z L HE1.out HF.out (exp_none he HD3.out z3)]; exact SkipPost.fail HR.out HK8.out⟩
                      · have z3' : ((d3 : Int) == 0) = false := by simp [z3]
                        go_wp2
                        go_meet
                        case rel => exact ⟨_, exp_some he HD3.out z3, HK8.out⟩
                · have he' : decide (f < n ∧ (B f = 101 ∨ B f = 69)) = false := by simp only [decide_eq_false_iff_not]; exact he
                  go_wp2
                  go_meet
                  case rel => exact ⟨_, exp_skip he, HK4.out⟩
              case rest =>
                clear f0 f1 f2 f3 f4 f5 f6 f7
                obtain ⟨g, HG, HK9⟩ := hcut
                obtain ⟨f0, f1, f2, f3, f4, f5, f6, f7⟩ := HR.out.facts HK9.out
                go_wp2
                go_end0
                exact ⟨rfl, by rw [← HS.out, skip_some HJ.out HD1.out z L HE1.out HF.out HG.out]; exact SkipPost.ok HR.out HK9.out⟩
end Go.Proofs.Qxb6602886a
