import Derived.Test.Qxb6604360aRefs
import Derived.Test.Qxb6604360aChain
/- zzElementReachable (15), walked whole: five loops. -/
namespace Go.Proofs.Qxb6604360a
open Go.RowKit Go.Deep
set_option linter.unusedVariables false

theorem Try.info27' : (Try.prog.info? 27).map (fun i => (i.zero, i.size, i.bytes)) = some (some (.int .u32 0), 1, 4) := by kernel_rfl

theorem same_t {a0 a1 : Option Addr} {l c0 l' c1 : Nat} {V V' : Nat → Int} (w : World) (hl : l ≤ 65536) (hl' : l' ≤ 65536) (r0 : Row .u32 w a0 l V) (r1 : Row .u32 w a1 l' V') (h : Same V l V' l') :
    Calls Try.prog 19 #[.slice a0 l c0, .slice a1 l' c1] w fun e w' => e = .returned (.bool true) ∧ ∃ q, w' = w.drewN q :=
  (same19 a0 a1 l c0 l' c1 V V' w hl hl' r0 r1).mono fun e w' ⟨r, he, hw, hr⟩ => ⟨by rw [he, hr.2 h], hw⟩
theorem same_f {a0 a1 : Option Addr} {l c0 l' c1 : Nat} {V V' : Nat → Int} (w : World) (hl : l ≤ 65536) (hl' : l' ≤ 65536) (r0 : Row .u32 w a0 l V) (r1 : Row .u32 w a1 l' V') (h : ¬ Same V l V' l') :
    Calls Try.prog 19 #[.slice a0 l c0, .slice a1 l' c1] w fun e w' => e = .returned (.bool false) ∧ ∃ q, w' = w.drewN q :=
  (same19 a0 a1 l c0 l' c1 V V' w hl hl' r0 r1).mono fun e w' ⟨r, he, hw, hr⟩ => ⟨by rw [he]; cases r; rfl; exact absurd (hr.1 rfl) h, hw⟩

theorem quiet_add {P : Program} {f : Nat} {args : Array Value} {w : World} {q x : Nat} {v : Value} (h : Calls P f args (w.drewN (q + x)) fun e w'' => e = .returned v ∧ ∃ m, w'' = (w.drewN (q + x)).drewN m) :
    Calls P f args (w.drewN (q + x)) fun e w'' => e = .returned v ∧ ∃ n, w'' = w.drewN (q + n) :=
  h.mono fun e w'' ⟨he, m, hm⟩ => ⟨he, x + m, by rw [hm, World.drewN_drewN, Nat.add_assoc]⟩

theorem _root_.Go.RowKit.Below.drewN' {B : Nat} {a w : World} (h : Below B a w) (n : Nat) : Below B a (w.drewN n) := below_drewN h n
theorem _root_.Go.World.rowIs.drewN' {w : World} {b t n : Nat} {f : Nat → Value} (h : w.rowIs b t n f) (q : Nat) : (w.drewN q).rowIs b t n f := h

theorem row_same {w : World} {b t n : Nat} {f g : Nat → Nat} (h : w.rowIs b t n (fun p => .int .u32 ((f p : Nat) : Int))) (e : ∀ p, g p = f p) : Hid (w.rowIs b t n (fun p => .int .u32 ((g p : Nat) : Int))) :=
  h.congr fun p _ => by rw [e p]

theorem row_last {w : World} {H n j p : Nat} {R : Nat → Int} {V : Nat → Nat → Int} {L : Nat → Nat} (h : w.rowIs H 27 n (fun p => .int .u32 ((lastTo R V L j p : Nat) : Int))) (ha : Asc R n) (hl : 0 < L j) (hp : p < n) (hv : R p = V j 0) :
    (w.setCell ⟨H, p, none⟩ (.int .u32 ((j : Int) + 1))).rowIs H 27 n (fun p => .int .u32 ((lastTo R V L (j + 1) p : Nat) : Int)) := by
  refine (h.set p _).congr fun i hi => ?_
  by_cases e : i = p
  · subst e
    rw [if_pos rfl, lastTo_hit hl hv.symm]
    rfl
  · rw [if_neg e, lastTo_miss (fun h => e (ha.inj hi hp (by rw [hv]; exact h.2.symm)))]

theorem bef_step {R Bf : Nat → Int} {V : Nat → Nat → Int} {L : Nat → Nat} {n j p lt : Nat} (ha : Asc R n) (hp : p < n) (hv : R p = V j 0) (hlt : lastTo R V L j p = lt) (hz : Bf j = (lt : Int)) :
    0 < L j → ∀ p, p < n → R p = V j 0 → Bf j = lastTo R V L j p := by
  intro _ p' hp' hv'
  obtain rfl : p' = p := ha.inj hp' hp (by rw [hv, hv'])
  rw [hz, hlt]

theorem asc_step {R : Nat → Int} {k : Nat} (h : Asc R k) (hk : 0 < k → R (k - 1) < R k) : Asc R (k + 1) := by
  intro i j hij hj
  by_cases e : j = k
  · subst e
    have h1 := hk (by omega)
    by_cases e2 : i = j - 1
    · rw [e2]; exact h1
    · have := h i (j - 1) (by omega) (by omega); omega
  · exact h i j hij (by omega)

set_option maxRecDepth 100000 in
set_option maxHeartbeats 3200000 in
theorem elem15 (a0 a1 a2 a3 a4 : Option Addr) (nr c0 k c1 c2 c3 c4 : Nat) (bare : Int) (R K Bf N : Nat → Int) (A : Nat → Option Addr) (L C : Nat → Nat) (V : Nat → Nat → Int) (w : World)
    (hnr : nr ≤ 65536) (hk : k ≤ 4096) (hL : ∀ j, j < k → L j ≤ 65536)
    (r0 : Row .u32 w a0 nr R) (r1 : RowS w a1 k A L C V) (r2 : Row .u32 w a2 k K) (r3 : Row .u32 w a3 k Bf) (r4 : Row .u32 w a4 nr N) :
    Calls Try.prog 15 #[.slice a0 nr c0, .slice a1 k c1, .slice a2 k c2, .slice a3 k c3, .slice a4 nr c4, .int .u32 bare] w fun e w' => ∃ r, e = .returned (.bool r) ∧ Below w.heap.size w w' ∧ (r = true → Elem R nr V L k Bf N bare) := by
  have R0 : Hid (Row .u32 w a0 nr R) := r0
  have R1 : Hid (RowS w a1 k A L C V) := r1
  have R2 : Hid (Row .u32 w a2 k K) := r2
  have R3 : Hid (Row .u32 w a3 k Bf) := r3
  have R4 : Hid (Row .u32 w a4 nr N) := r4
  have HL : Hid (∀ j, j < k → L j ≤ 65536) := hL
  clear r0 r1 r2 r3 r4 hL
  have u1 : ((k : Int) != (k : Int)) = false := by simp
  have u2 : ((nr : Int) != (nr : Int)) = false := by simp
  go_enter Try.func15, Try.ntmps15
  go_wp2
  go_loopg [13] nr (fun g i wr => ∃ n1 : Nat, ∃ q, wr = w.drewN q ∧ n1 ≤ nr ∧ g = nr - n1 ∧ i = .int .i64 n1 ∧ Hid (Asc R n1))
  case atStart => exact ⟨0, 0, rfl, by omega, rfl, rfl, fun i j _ h => absurd h (Nat.not_lt_zero _)⟩
  case round =>
    obtain ⟨n1, q, rfl, hn1, rfl, rfl, hasc⟩ := hrel
    by_cases hlt : n1 < nr
    · obtain ⟨b, o, rfl, hb, hc⟩ := R0.out n1 hlt
      have q1 : (n1 : Int) < (nr : Int) := by omega
      have q2 : (0 : Int) ≤ (n1 : Int) := by omega
      by_cases hz : R n1 = 0
      · have ez : (R n1 == 0) = true := beq_iff_eq.2 hz
        clear hz
        go_wp2
        go_ret
        exact ⟨false, rfl, below_drewN (Below.refl _ _) _, by simp⟩
      · have ez : (R n1 == 0) = false := beq_eq_false_iff_ne.2 hz
        clear hz
        by_cases h0 : n1 = 0
        · have d0 : decide ((0 : Int) < (n1 : Int)) = false := decide_eq_false (by omega)
          have d1 : decide (0 < n1) = false := decide_eq_false (by omega)
          have H0 : Hid (n1 = 0) := h0
          clear h0
          go_wp2
          go_quiet (fail)
          go_wp2
          go_roundg (nr - (n1 + 1))
          case measure => omega
          case rel => exact ⟨n1 + 1, _, rfl, by omega, rfl, by go_num, asc_step hasc.out (fun h => absurd H0.out (by omega))⟩
        · have d0 : (0 : Int) < (n1 : Int) := by omega
          have d1 : 0 < n1 := by omega
          have q3 : (n1 : Int) - 1 < (nr : Int) := by omega
          have q4 : (0 : Int) ≤ (n1 : Int) - 1 := by omega
          have qw : IntKind.i64.wrap ((n1 : Int) - 1) = (n1 : Int) - 1 := by rw [IntKind.wrap_i64]; omega
          obtain ⟨b', o', he, _, hc'⟩ := R0.out (n1 - 1) (by omega)
          obtain ⟨rfl, rfl⟩ : b = b' ∧ o = o' := by simpa using he
          clear he h0
          by_cases hge : R n1 ≤ R (n1 - 1)
          · go_wp2
            go_quiet (fail)
            go_wp2
            go_ret
            exact ⟨false, rfl, below_drewN (below_drewN (Below.refl _ _) _) _, by simp⟩
          · go_wp2
            go_quiet (fail)
            go_wp2
            go_roundg (nr - (n1 + 1))
            case measure => omega
            case rel => exact ⟨n1 + 1, _, rfl, by omega, rfl, by go_num, asc_step hasc.out (fun h => by omega)⟩
    · obtain rfl : n1 = nr := by omega
      have ASC : Hid (Asc R n1) := hasc
      clear hasc hlt
      go_wp2
      go_loopg [15] k (fun g i wr => ∃ j : Nat, ∃ q, wr = w.drewN q ∧ j ≤ k ∧ g = k - j ∧ i = .int .i64 j ∧ Hid (∀ j', j' < j → Lies R n1 (V j') (L j')) ∧ Hid (∀ j', j' < j → ∀ m, m < j' → ¬ Same (V m) (L m) (V j') (L j')))
      case atStart => exact ⟨0, q, rfl, by omega, rfl, rfl, fun j h => absurd h (Nat.not_lt_zero _), fun j h => absurd h (Nat.not_lt_zero _)⟩
      case round =>
        clear q
        obtain ⟨j, q, rfl, hj, rfl, rfl, hlies, hdist⟩ := hrel
        by_cases hlt : j < k
        · obtain ⟨b2, o2, rfl, hb2, hc2⟩ := R2.out j hlt
          obtain ⟨⟨b1, o1, rfl, hb1, hc1⟩, hrj, hnj⟩ := R1.out j hlt
          have RJ : Hid (Row .u32 w (A j) (L j) (V j)) := hrj
          clear hrj hnj
          have q1 : (j : Int) < (k : Int) := by omega
          have q2 : (0 : Int) ≤ (j : Int) := by omega
          by_cases hz : K j = 0
          · have ez : (K j == 0) = true := beq_iff_eq.2 hz
            clear hz
            go_wp2
            go_ret
            exact ⟨false, rfl, below_drewN (Below.refl _ _) _, by simp⟩
          · have ez : (K j == 0) = false := beq_eq_false_iff_ne.2 hz
            clear hz
            by_cases hkk : 0 < j ∧ K j ≤ K (j - 1)
            · obtain ⟨d1, hge⟩ := hkk
              have d0 : (0 : Int) < (j : Int) := by omega
              have q3 : (j : Int) - 1 < (k : Int) := by omega
              have q4 : (0 : Int) ≤ (j : Int) - 1 := by omega
              have qw : IntKind.i64.wrap ((j : Int) - 1) = (j : Int) - 1 := by rw [IntKind.wrap_i64]; omega
              obtain ⟨b', o', he, _, hc'⟩ := R2.out (j - 1) (by omega)
              obtain ⟨rfl, rfl⟩ : b2 = b' ∧ o2 = o' := by simpa using he
              clear he
              go_wp2
              go_quiet (fail)
              go_wp2
              go_ret
              exact ⟨false, rfl, below_drewN (below_drewN (Below.refl _ _) _) _, by simp⟩
            · rcases (show j = 0 ∨ (0 < j ∧ ¬ K j ≤ K (j - 1)) by omega) with h0 | ⟨h0, hge⟩
              case' inl =>
                have d0 : decide ((0 : Int) < (j : Int)) = false := decide_eq_false (by omega)
                have d1 : decide (0 < j) = false := decide_eq_false (by omega)
                clear h0 hkk
                go_wp2
                go_quiet (fail)
                go_wp2_with fail
                clear d0 d1
              case' inr =>
                have d0 : (0 : Int) < (j : Int) := by omega
                have q3 : (j : Int) - 1 < (k : Int) := by omega
                have q4 : (0 : Int) ≤ (j : Int) - 1 := by omega
                have qw : IntKind.i64.wrap ((j : Int) - 1) = (j : Int) - 1 := by rw [IntKind.wrap_i64]; omega
                obtain ⟨b', o', he, _, hc'⟩ := R2.out (j - 1) (by omega)
                obtain ⟨rfl, rfl⟩ : b2 = b' ∧ o2 = o' := by simpa using he
                clear he hkk
                go_wp2
                go_quiet (fail)
                go_wp2_with fail
                clear d0 q3 q4 qw hc' hge h0
              all_goals
                refine (latest14 a0 (A j) n1 c0 (L j) (C j) R (V j) _ hnr (HL.out j hlt) (R0.out.drewN _) (RJ.out.drewN _)).mono ?_
                rintro e w1 ⟨r, rfl, ⟨q2, rfl⟩, hr⟩
                cases r
                · clear hr
                  go_wp2
                  go_ret
                  exact ⟨false, rfl, below_drewN (Below.refl _ _) _, by simp⟩
                · have LJ : Hid (Lies R n1 (V j) (L j)) := hr rfl
                  clear hr
                  go_wp2
                  go_loopg [16] j (fun g i wr => ∃ m : Nat, ∃ q', wr = w.drewN q' ∧ m ≤ j ∧ g = j - m ∧ i = .int .i64 m ∧ Hid (∀ m', m' < m → ¬ Same (V m') (L m') (V j) (L j)))
                  case atStart => exact ⟨0, _, rfl, by omega, rfl, rfl, fun m h => absurd h (Nat.not_lt_zero _)⟩
                  case round =>
                    obtain ⟨m, q', rfl, hm, rfl, rfl, hds⟩ := hrel
                    by_cases hmj : m < j
                    · obtain ⟨⟨b', o', he, _, hc'⟩, hrm, -⟩ := R1.out m (by omega)
                      obtain ⟨rfl, rfl⟩ : b1 = b' ∧ o1 = o' := by simpa using he
                      have RM : Hid (Row .u32 w (A m) (L m) (V m)) := hrm
                      clear he hrm
                      have q3 : (m : Int) < (k : Int) := by omega
                      have q4 : (0 : Int) ≤ (m : Int) := by omega
                      by_cases hsm : Same (V m) (L m) (V j) (L j)
                      · have HSM : Hid (Same (V m) (L m) (V j) (L j)) := hsm
                        clear hsm
                        go_wp2
                        go_quiet ((go_at_call 19; exact quiet_add (same_t _ (HL.out m (by omega)) (HL.out j hlt) (RM.out.drewN _) (RJ.out.drewN _) HSM.out)))
                        go_wp2
                        go_ret
                        exact ⟨false, rfl, below_drewN (below_drewN (Below.refl _ _) _) _, by simp⟩
                      · have HSM : Hid (¬ Same (V m) (L m) (V j) (L j)) := hsm
                        clear hsm
                        go_wp2
                        go_quiet ((go_at_call 19; exact quiet_add (same_f _ (HL.out m (by omega)) (HL.out j hlt) (RM.out.drewN _) (RJ.out.drewN _) HSM.out)))
                        go_wp2
                        go_roundg (j - (m + 1))
                        case measure => omega
                        case rel => exact ⟨m + 1, _, rfl, by omega, rfl, by go_num, all_step hds.out HSM.out⟩
                    · obtain rfl : m = j := by omega
                      go_wp2
                      go_roundg (k - (m + 1))
                      case measure => omega
                      case rel => exact ⟨m + 1, _, rfl, by omega, rfl, by go_num, all_step hlies.out LJ.out, all_step hdist.out hds.out⟩
        · obtain rfl : k = j := by omega
          have hmk := run_make_row' (P := Try.prog) 23 27 (.int .u32 0) 4 Try.underlying23 Try.info27' rfl .i64 .i64 n1 (by omega) (by omega)
          go_wp2
          clear hmk hlt
          go_loopg [18, 19] k (fun g wb i wr => ∃ j : Nat, j ≤ k ∧ g = k - j ∧ i = .int .i64 j ∧ wb = .int .u32 ((bareTo L j : Nat) : Int) ∧ Hid (wr.rowIs w.heap.size 27 n1 (fun p => .int .u32 ((lastTo R V L j p : Nat) : Int))) ∧ Hid (Below w.heap.size w wr) ∧
            Hid (∀ j', j' < j → 0 < L j' → ∀ p, p < n1 → R p = V j' 0 → Bf j' = lastTo R V L j' p))
          case atStart => exact ⟨0, by omega, rfl, rfl, rfl, World.rowIs_made w (.int .u32 0) n1 27, ((Below.refl _ _).alloc (Nat.le_refl _) _).drewN' _, fun j h => absurd h (Nat.not_lt_zero _)⟩
          case round =>
            clear hj
            obtain ⟨j, hj, rfl, rfl, rfl, hrow, hbel, hbef⟩ := hrel
            by_cases hlt : j < k
            · obtain ⟨b3, o3, rfl, hb3, hc3⟩ := R3.out j hlt
              obtain ⟨⟨b1, o1, rfl, hb1, hc1⟩, hrj, hnj⟩ := R1.out j hlt
              have g3 : wr.cell? ⟨b3, o3 + j, none⟩ = some (.int .u32 (Bf j)) := (hbel.out.cell (p := ⟨b3, o3 + j, none⟩) hb3).trans hc3
              have q1 : (j : Int) < (k : Int) := by omega
              have q2 : (0 : Int) ≤ (j : Int) := by omega
              by_cases hl0 : L j = 0
              · have g1 : wr.cell? ⟨b1, o1 + j, none⟩ = some (.slice (A j) (L j) (C j)) := (hbel.out.cell (p := ⟨b1, o1 + j, none⟩) hb1).trans hc1
                have el : ((L j : Int) == 0) = true := beq_iff_eq.2 (by omega)
                have HL0 : Hid (L j = 0) := hl0
                clear hl0 hrj hnj hc1 hc3
                by_cases hz : Bf j = 0
                · have ez : (Bf j != 0) = false := by simpa using hz
                  clear hz
                  go_wp2
                  go_roundg (k - (j + 1))
                  case measure => omega
                  case rel => exact ⟨j + 1, by omega, rfl, by go_num, by rw [bareTo_hit HL0.out]; go_num, row_same hrow.out (fun p => lastTo_miss (by have := HL0.out; omega)), hbel, all_step hbef.out (fun h => absurd HL0.out (by omega))⟩
                · have ez : (Bf j != 0) = true := by simpa using hz
                  clear hz
                  go_wp2
                  go_ret
                  exact ⟨false, rfl, hbel.out, by simp⟩
              · have hlp : 0 < L j := by omega
                obtain ⟨p, hpn, hpv⟩ := hlies.out j hlt 0 hlp
                obtain ⟨bj, oj, hA, hbj, hcj⟩ := hrj 0 hlp
                rw [hA] at hc1
                have g1 : wr.cell? ⟨b1, o1 + j, none⟩ = some (.slice (some ⟨bj, oj, none⟩) (L j) (C j)) := (hbel.out.cell (p := ⟨b1, o1 + j, none⟩) hb1).trans hc1
                have gj : wr.cell? ⟨bj, oj, none⟩ = some (.int .u32 (V j 0)) := (hbel.out.cell (p := ⟨bj, oj, none⟩) hbj).trans hcj
                have gl : wr.cell? ⟨w.heap.size, p, none⟩ = some (.int .u32 ((lastTo R V L j p : Nat) : Int)) := hrow.out.cell hpn
                have gf : wr.frozen? ⟨w.heap.size, p, none⟩ = false := hrow.out.frozen _
                have el : ((L j : Int) == 0) = false := beq_eq_false_iff_ne.2 (by omega)
                have q3 : (0 : Int) < (L j : Int) := by omega
                have q4 : (p : Int) < (n1 : Int) := by omega
                have q5 : (0 : Int) ≤ (p : Int) := by omega
                have HPV : Hid (R p = V j 0) := hpv
                clear hl0 hrj hnj hc1 hc3 hA hcj hpv
                obtain ⟨lt, hlt'⟩ : ∃ lt : Nat, lastTo R V L j p = lt := ⟨_, rfl⟩
                rw [hlt'] at gl
                have HLT : Hid (lastTo R V L j p = lt) := hlt'
                clear hlt'
                by_cases hz : Bf j = (lt : Int)
                · have ez : (Bf j != (lt : Int)) = false := by simpa using hz
                  have HZ : Hid (Bf j = (lt : Int)) := hz
                  clear hz
                  go_wp2_with fail
                  refine (place26 a0 n1 c0 R (V j 0) _ hnr (R0.out.below hbel.out)).mono ?_
                  rintro e w1 ⟨r, rfl, rfl, -, hr⟩
                  obtain rfl : r = (p : Int) := hr ASC.out p hpn HPV.out
                  clear hr
                  go_wp2
                  go_quiet (fail)
                  go_wp2
                  go_roundg (k - (j + 1))
                  case measure => omega
                  case rel => exact ⟨j + 1, by omega, rfl, by go_num, by rw [bareTo_miss hlp], (row_last hrow.out ASC.out hlp hpn HPV.out).drewN' _, (hbel.out.setCell (p := ⟨w.heap.size, p, none⟩) (Nat.le_refl _) _).drewN' _, all_step hbef.out (bef_step ASC.out hpn HPV.out HLT.out HZ.out)⟩
                · have ez : (Bf j != (lt : Int)) = true := by simpa using hz
                  clear hz
                  go_wp2_with fail
                  refine (place26 a0 n1 c0 R (V j 0) _ hnr (R0.out.below hbel.out)).mono ?_
                  rintro e w1 ⟨r, rfl, rfl, -, hr⟩
                  obtain rfl : r = (p : Int) := hr ASC.out p hpn HPV.out
                  clear hr
                  go_wp2
                  go_quiet (fail)
                  go_wp2
                  go_ret
                  exact ⟨false, rfl, hbel.out.drewN' _, by simp⟩
            · obtain rfl : k = j := by omega
              obtain ⟨bt, hbt⟩ : ∃ bt : Nat, bareTo L k = bt := ⟨_, rfl⟩
              rw [hbt]
              have HBT : Hid (bareTo L k = bt) := hbt
              clear hbt hlt
              by_cases hz : bare = (bt : Int)
              · have ez : (bare != (bt : Int)) = false := by simpa using hz
                have HZ : Hid (bare = (bt : Int)) := hz
                clear hz
                go_wp2
                obtain ⟨wv, rfl⟩ : ∃ wv : World, wv = wr := ⟨_, rfl⟩
                go_loopg [22] n1 (fun g i wx => ∃ p : Nat, p ≤ n1 ∧ g = n1 - p ∧ i = .int .i64 p ∧ (∃ q, wx = wv.drewN q) ∧ Hid (∀ p', p' < p → N p' = lastTo R V L k p'))
                case atStart => exact ⟨0, by omega, rfl, rfl, ⟨0, rfl⟩, fun p h => absurd h (Nat.not_lt_zero _)⟩
                case round =>
                  obtain ⟨p, hp, rfl, rfl, ⟨q', rfl⟩, hnew⟩ := hrel
                  by_cases hlt : p < n1
                  · obtain ⟨b4, o4, rfl, hb4, hc4⟩ := R4.out p hlt
                    have g4 : wv.cell? ⟨b4, o4 + p, none⟩ = some (.int .u32 (N p)) := (hbel.out.cell (p := ⟨b4, o4 + p, none⟩) hb4).trans hc4
                    have gl : wv.cell? ⟨w.heap.size, p, none⟩ = some (.int .u32 ((lastTo R V L k p : Nat) : Int)) := hrow.out.cell hlt
                    have q1 : (p : Int) < (n1 : Int) := by omega
                    have q2 : (0 : Int) ≤ (p : Int) := by omega
                    obtain ⟨lt, hlt'⟩ : ∃ lt : Nat, lastTo R V L k p = lt := ⟨_, rfl⟩
                    rw [hlt'] at gl
                    have HLT : Hid (lastTo R V L k p = lt) := hlt'
                    clear hlt' hc4
                    by_cases hz : N p = (lt : Int)
                    · have ez' : (N p != (lt : Int)) = false := by simpa using hz
                      have HZ' : Hid (N p = (lt : Int)) := hz
                      clear hz
                      go_wp2
                      go_quiet (fail)
                      go_wp2
                      go_roundg (n1 - (p + 1))
                      case measure => omega
                      case rel => exact ⟨p + 1, by omega, rfl, by go_num, ⟨_, rfl⟩, all_step hnew.out (by rw [HZ'.out, HLT.out])⟩
                    · have ez' : (N p != (lt : Int)) = true := by simpa using hz
                      clear hz
                      go_wp2
                      go_quiet (fail)
                      go_wp2
                      go_ret
                      exact ⟨false, rfl, (hbel.out.drewN' _).drewN' _, by simp⟩
                  · go_wp2
                    go_ret
                    exact ⟨true, rfl, hbel.out.drewN' _, fun _ => ⟨ASC.out, hlies.out, hdist.out, hbef.out, fun p hp => hnew.out p (by omega), by rw [HZ.out, HBT.out]⟩⟩
              · have ez : (bare != (bt : Int)) = true := by simpa using hz
                clear hz
                go_wp2
                go_ret
                exact ⟨false, rfl, hbel.out, by simp⟩

set_option maxRecDepth 100000 in
set_option maxHeartbeats 3200000 in
/-- Where the lengths do not fit, it answers false. -/
theorem elem15_off (a0 a1 a2 a3 a4 : Option Addr) (nr c0 k c1 nk c2 nb c3 nn c4 : Nat) (bare : Int) (R : Nat → Int) (w : World)
    (hnr : nr ≤ 65536) (hk : k ≤ 65536) (hnk : nk ≤ 65536) (hnb : nb ≤ 65536) (hnn : nn ≤ 65536) (hoff : ¬ (nk = k ∧ nb = k ∧ nn = nr))
    (r0 : Row .u32 w a0 nr R) :
    Calls Try.prog 15 #[.slice a0 nr c0, .slice a1 k c1, .slice a2 nk c2, .slice a3 nb c3, .slice a4 nn c4, .int .u32 bare] w fun e w' => e = .returned (.bool false) ∧ Below w.heap.size w w' := by
  have R0 : Hid (Row .u32 w a0 nr R) := r0
  have HO : Hid (¬ (nk = k ∧ nb = k ∧ nn = nr)) := hoff
  clear r0 hoff
  go_enter Try.func15, Try.ntmps15
  go_wp2
  go_loopg [13] nr (fun g i wr => ∃ n1 : Nat, ∃ q, wr = w.drewN q ∧ n1 ≤ nr ∧ g = nr - n1 ∧ i = .int .i64 n1 ∧ Hid (Asc R n1))
  case atStart => exact ⟨0, 0, rfl, by omega, rfl, rfl, fun i j _ h => absurd h (Nat.not_lt_zero _)⟩
  case round =>
    obtain ⟨n1, q, rfl, hn1, rfl, rfl, hasc⟩ := hrel
    by_cases hlt : n1 < nr
    · obtain ⟨b, o, rfl, hb, hc⟩ := R0.out n1 hlt
      have q1 : (n1 : Int) < (nr : Int) := by omega
      have q2 : (0 : Int) ≤ (n1 : Int) := by omega
      by_cases hz : R n1 = 0
      · have ez : (R n1 == 0) = true := beq_iff_eq.2 hz
        clear hz
        go_wp2
        go_ret
        exact ⟨rfl, below_drewN (Below.refl _ _) _⟩
      · have ez : (R n1 == 0) = false := beq_eq_false_iff_ne.2 hz
        clear hz
        by_cases h0 : n1 = 0
        · have d0 : decide ((0 : Int) < (n1 : Int)) = false := decide_eq_false (by omega)
          have d1 : decide (0 < n1) = false := decide_eq_false (by omega)
          have H0 : Hid (n1 = 0) := h0
          clear h0
          go_wp2
          go_quiet (fail)
          go_wp2
          go_roundg (nr - (n1 + 1))
          case measure => omega
          case rel => exact ⟨n1 + 1, _, rfl, by omega, rfl, by go_num, asc_step hasc.out (fun h => absurd H0.out (by omega))⟩
        · have d0 : (0 : Int) < (n1 : Int) := by omega
          have d1 : 0 < n1 := by omega
          have q3 : (n1 : Int) - 1 < (nr : Int) := by omega
          have q4 : (0 : Int) ≤ (n1 : Int) - 1 := by omega
          have qw : IntKind.i64.wrap ((n1 : Int) - 1) = (n1 : Int) - 1 := by rw [IntKind.wrap_i64]; omega
          obtain ⟨b', o', he, _, hc'⟩ := R0.out (n1 - 1) (by omega)
          obtain ⟨rfl, rfl⟩ : b = b' ∧ o = o' := by simpa using he
          clear he h0
          by_cases hge : R n1 ≤ R (n1 - 1)
          · go_wp2
            go_quiet (fail)
            go_wp2
            go_ret
            exact ⟨rfl, below_drewN (below_drewN (Below.refl _ _) _) _⟩
          · go_wp2
            go_quiet (fail)
            go_wp2
            go_roundg (nr - (n1 + 1))
            case measure => omega
            case rel => exact ⟨n1 + 1, _, rfl, by omega, rfl, by go_num, asc_step hasc.out (fun h => by omega)⟩
    · obtain rfl : n1 = nr := by omega
      clear hasc hlt
      by_cases h1 : nk = k
      · by_cases h2 : nb = k
        · have h3 : ¬ nn = n1 := fun h => HO.out ⟨h1, h2, h⟩
          have e1 : ((nk : Int) != (k : Int)) = false := by rw [h1]; simp
          have e2 : ((nb : Int) != (k : Int)) = false := by rw [h2]; simp
          have e3 : ((nn : Int) != (n1 : Int)) = true := by rw [bne_iff_ne]; omega
          clear h1 h2 h3
          go_wp2
          go_ret
          exact ⟨rfl, below_drewN (Below.refl _ _) _⟩
        · have e1 : ((nk : Int) != (k : Int)) = false := by rw [h1]; simp
          have e2 : ((nb : Int) != (k : Int)) = true := by rw [bne_iff_ne]; omega
          clear h1 h2
          go_wp2
          go_ret
          exact ⟨rfl, below_drewN (Below.refl _ _) _⟩
      · have e1 : ((nk : Int) != (k : Int)) = true := by rw [bne_iff_ne]; omega
        clear h1
        go_wp2
        go_ret
        exact ⟨rfl, below_drewN (Below.refl _ _) _⟩

/-- zzElementReachable (15). -/
theorem elem15_any (a0 a1 a2 a3 a4 : Option Addr) (nr c0 k c1 nk c2 nb c3 nn c4 : Nat) (bare : Int) (R K Bf N : Nat → Int) (A : Nat → Option Addr) (L C : Nat → Nat) (V : Nat → Nat → Int) (w : World)
    (hnr : nr ≤ 65536) (hk : k ≤ 4096) (hnk : nk ≤ 65536) (hnb : nb ≤ 65536) (hnn : nn ≤ 65536) (hL : ∀ j, j < k → L j ≤ 65536)
    (r0 : Row .u32 w a0 nr R) (r1 : RowS w a1 k A L C V) (r2 : Row .u32 w a2 nk K) (r3 : Row .u32 w a3 nb Bf) (r4 : Row .u32 w a4 nn N) :
    Calls Try.prog 15 #[.slice a0 nr c0, .slice a1 k c1, .slice a2 nk c2, .slice a3 nb c3, .slice a4 nn c4, .int .u32 bare] w fun e w' => ∃ r, e = .returned (.bool r) ∧ Below w.heap.size w w' ∧ (r = true → nk = k ∧ nb = k ∧ nn = nr ∧ Elem R nr V L k Bf N bare) := by
  by_cases h : nk = k ∧ nb = k ∧ nn = nr
  · obtain ⟨rfl, rfl, rfl⟩ := h
    exact (elem15 a0 a1 a2 a3 a4 nn c0 nb c1 c2 c3 c4 bare R K Bf N A L C V w hnr hk hL r0 r1 r2 r3 r4).mono fun e w' ⟨r, he, hb, hr⟩ => ⟨r, he, hb, fun h => ⟨rfl, rfl, rfl, hr h⟩⟩
  · exact (elem15_off a0 a1 a2 a3 a4 nr c0 k c1 nk c2 nb c3 nn c4 bare R w hnr (by omega) hnk hnb hnn h r0).mono fun e w' ⟨he, hb⟩ => ⟨false, he, hb, fun h => by cases h⟩

end Go.Proofs.Qxb6604360a
