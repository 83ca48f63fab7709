import Derived.Test.Qxb6604360aStore
import Derived.Test.Qxb6604360aReach
/- zzAnchoredReachable (12): where it answers true, every change is laid as a store with anchors wants it. -/
namespace Go.Proofs.Qxb6604360a
open Go.RowKit Go.Deep
set_option linter.unusedVariables false

theorem Try.info27 : (Try.prog.info? 27).map (fun i => (i.zero, i.size, i.bytes)) = some (some (.int .u32 0), 1, 4) := by kernel_rfl

/-- What zzAnchoredReachable asks of the change at place i. -/
def OkA (S P T A : Nat → Int) (m : Nat) (i : Nat) : Prop :=
  S i ≤ 7 ∧ (S i = 7 → 1 ≤ A i ∧ A i ≤ i ∧ 3 ≤ S ((A i).toNat - 1) ∧ P i < m ∧ T (P i).toNat = tgtF S P T ((A i).toNat - 1))

/-- The two blocks that the call makes: the targets so far (block B), the counts (block B + 1). -/
structure RInv (B : Nat) (w : World) (n : Nat) (S P T : Nat → Int) (wr : World) (k : Nat) : Prop where
  tgt : ∃ g : Nat → Int, wr.rowIs B 27 n (fun j => .int .u32 (g j)) ∧ ∀ j, j < k → 3 ≤ S j → g j = tgtF S P T j
  seen : ∃ f : Nat → Int, wr.rowIs (B + 1) 43 8 (fun j => .int .u32 (f j))
  below : Below B w wr

variable {B n k : Nat} {w wr : World} {S P T : Nat → Int}

theorem RInv.drewN (h : RInv B w n S P T wr k) (q : Nat) : RInv B w n S P T (wr.drewN q) k := ⟨h.tgt, h.seen, below_drewN h.below q⟩

theorem RInv.putSeen (h : RInv B w n S P T wr k) (i : Nat) (x : Int) : RInv B w n S P T (wr.setCell ⟨B + 1, i, none⟩ (.int .u32 x)) k := by
  obtain ⟨g, hg, hG⟩ := h.tgt
  obtain ⟨f, hf⟩ := h.seen
  exact ⟨⟨g, hg.setOther (by simp) _, hG⟩, row_set hf i x, h.below.setCell (p := ⟨B + 1, i, none⟩) (by simp) _⟩

theorem RInv.putTgt (h : RInv B w n S P T wr k) (x : Int) (hx : x = tgtF S P T k) : RInv B w n S P T (wr.setCell ⟨B, k, none⟩ (.int .u32 x)) (k + 1) := by
  obtain ⟨g, hg, hG⟩ := h.tgt
  obtain ⟨f, hf⟩ := h.seen
  refine ⟨⟨fun j => if j = k then x else g j, (hg.set k (.int .u32 x)).congr (fun j _ => ?_), fun j hj h3 => ?_⟩, ⟨f, hf.setOther (by simp) _⟩, h.below.setCell (p := ⟨B, k, none⟩) (by simp) _⟩
  · by_cases e : j = k <;> simp [e]
  · by_cases e : j = k
    · simp [e, hx]
    · simp only [if_neg e]; exact hG j (by omega) h3

theorem RInv.skip (h : RInv B w n S P T wr k) (hs : S k < 3) : RInv B w n S P T wr (k + 1) := by
  obtain ⟨g, hg, hG⟩ := h.tgt
  refine ⟨⟨g, hg, fun j hj h3 => ?_⟩, h.seen, h.below⟩
  by_cases e : j = k
  · subst e; omega
  · exact hG j (by omega) h3

theorem row8 (w : World) : ∃ f : Nat → Int, (w.alloc (.cells #[.int .u32 0, .int .u32 0, .int .u32 0, .int .u32 0, .int .u32 0, .int .u32 0, .int .u32 0, .int .u32 0] 43)).rowIs w.heap.size 43 8 (fun j => .int .u32 (f j)) := by
  refine ⟨fun _ => 0, World.rowIs_alloc _ _ _ _ ?_⟩
  intro i hi
  match i, hi with
  | 0, _ | 1, _ | 2, _ | 3, _ | 4, _ | 5, _ | 6, _ | 7, _ => rfl
  | i + 8, hi => exact absurd hi (by simp)

theorem RInv.start (w : World) (n : Nat) (S P T : Nat → Int) : RInv w.heap.size w n S P T ((w.alloc (.cells (madeCells #[.int .u32 0] n) 27)).alloc (.cells #[.int .u32 0, .int .u32 0, .int .u32 0, .int .u32 0, .int .u32 0, .int .u32 0, .int .u32 0, .int .u32 0] 43)) 0 := by
  obtain ⟨f, hf⟩ := row8 (w.alloc (.cells (madeCells #[.int .u32 0] n) 27))
  exact ⟨⟨fun _ => 0, (World.rowIs_made w (.int .u32 0) n 27).alloc _, fun j hj => absurd hj (Nat.not_lt_zero _)⟩, ⟨f, by simpa using hf⟩, ((Below.refl _ _).alloc (Nat.le_refl _) _).alloc (by simp) _⟩

theorem own_t {s : Int} (hs : S k = s) (h3 : 3 ≤ s) (h6 : s ≤ 6) : (k : Int) + 1 = tgtF S P T k := by
  rw [tgtF, if_neg (by omega), if_pos (by omega)]

theorem cnt_t {s p t y : Int} (hs : S k = s) (h7 : s = 7) (hp : P k = p) (ht : T p.toNat = t) (hty : t = y) : y = tgtF S P T k := by
  rw [tgtF, if_neg (by omega), if_neg (by omega), hp, ht, hty]

theorem oka_own {A : Nat → Int} {m : Nat} {s : Int} (hs : S k = s) (h7 : s ≤ 7) (hne : ¬ s = 7) : OkA S P T A m k := ⟨by omega, fun h => absurd h (by omega)⟩

theorem oka_cnt {A : Nat → Int} {m : Nat} {s p t y a u : Int} (hs : S k = s) (h7 : s = 7) (ha : A k = a) (hp : P k = p) (ht : T p.toNat = t) (hty : t = y) (hy : y = tgtF S P T (a.toNat - 1)) (hu : S (a.toNat - 1) = u)
    (a1 : 1 ≤ a) (ak : a ≤ (k : Int)) (hu3 : ¬ u < 3) (hpm : p < (m : Int)) : OkA S P T A m k :=
  ⟨by omega, fun _ => by rw [ha, hp, ht, hu]; exact ⟨a1, ak, by omega, hpm, by rw [hty, hy]⟩⟩

set_option maxRecDepth 100000 in
set_option maxHeartbeats 3200000 in
theorem anch12 (a0 a1 a2 a3 : Option Addr) (n c0 l1 c1 l2 c2 m c3 : Nat) (S P A T : Nat → Int) (w : World) (hn : n ≤ 65536) (hl1 : l1 ≤ 65536) (hl2 : l2 ≤ 65536) (hm : m ≤ 65536)
    (r0 : Row .u8 w a0 n S) (r1 : Row .u32 w a1 l1 P) (r2 : Row .u32 w a2 l2 A) (r3 : Row .u32 w a3 m T)
    (bS : ∀ i, 0 ≤ S i ∧ S i ≤ 255) (bP : ∀ i, 0 ≤ P i ∧ P i ≤ 4294967295) (bA : ∀ i, 0 ≤ A i ∧ A i ≤ 4294967295) (bT : ∀ i, 0 ≤ T i ∧ T i ≤ 4294967295) :
    Calls Try.prog 12 #[.slice a0 n c0, .slice a1 l1 c1, .slice a2 l2 c2, .slice a3 m c3] w fun e w' => ∃ r, e = .returned (.bool r) ∧ Below w.heap.size w w' ∧ (r = true → l1 = n ∧ l2 = n ∧ ∀ i, i < n → OkA S P T A m i) := by
  by_cases hl : l1 = n
  · subst hl
    have u1 : ((l1 : Int) != (l1 : Int)) = false := by simp
    by_cases hl' : l2 = l1
    · subst hl'
      have R0 : Hid (Row .u8 w a0 l2 S) := r0
      have R1 : Hid (Row .u32 w a1 l2 P) := r1
      have R2 : Hid (Row .u32 w a2 l2 A) := r2
      have R3 : Hid (Row .u32 w a3 m T) := r3
      have BS : Hid (∀ i, 0 ≤ S i ∧ S i ≤ 255) := bS
      have BP : Hid (∀ i, 0 ≤ P i ∧ P i ≤ 4294967295) := bP
      have BA : Hid (∀ i, 0 ≤ A i ∧ A i ≤ 4294967295) := bA
      have BT : Hid (∀ i, 0 ≤ T i ∧ T i ≤ 4294967295) := bT
      clear r0 r1 r2 r3 bS bP bA bT
      have hmk := run_make_row' (P := Try.prog) 23 27 (.int .u32 0) 4 Try.underlying23 Try.info27 rfl .i64 .i64 l2 (by omega) (by omega)
      go_enter Try.func12, Try.ntmps12
      go_wp2
      clear hmk
      go_loopg [12] l2 (fun g i wr => ∃ k : Nat, k ≤ l2 ∧ g = l2 - k ∧ i = .int .i64 k ∧ Hid (RInv w.heap.size w l2 S P T wr k) ∧ Hid (∀ i, i < k → OkA S P T A m i))
      case atStart => exact ⟨0, Nat.zero_le _, rfl, rfl, RInv.start w l2 S P T, fun _ h => absurd h (Nat.not_lt_zero _)⟩
      case round =>
        obtain ⟨k, hk, rfl, rfl, hI, hok⟩ := hrel
        obtain ⟨g, hg, hG⟩ := hI.out.tgt
        obtain ⟨f, hf⟩ := hI.out.seen
        by_cases hlt : k < l2
        · obtain ⟨b0, o0, rfl, hb0, hc0⟩ := R0.out k hlt
          obtain ⟨b1, o1, rfl, hb1, hc1⟩ := R1.out k hlt
          obtain ⟨b2, o2, rfl, hb2, hc2⟩ := R2.out k hlt
          have hb := hI.out.below
          have bs := BS.out k
          have bp := BP.out k
          have ba := BA.out k
          have g0 : wr.cell? ⟨b0, o0 + k, none⟩ = some (.int .u8 (S k)) := (hb.cell (p := ⟨b0, o0 + k, none⟩) hb0).trans hc0
          have g1 : wr.cell? ⟨b1, o1 + k, none⟩ = some (.int .u32 (P k)) := (hb.cell (p := ⟨b1, o1 + k, none⟩) hb1).trans hc1
          have gA : wr.cell? ⟨b2, o2 + k, none⟩ = some (.int .u32 (A k)) := (hb.cell (p := ⟨b2, o2 + k, none⟩) hb2).trans hc2
          have g4 : wr.cell? ⟨w.heap.size, k, none⟩ = some (.int .u32 (g k)) := hg.cell hlt
          have g5 : wr.frozen? ⟨w.heap.size, k, none⟩ = false := hg.frozen _
          have HGR : Hid (wr.rowIs w.heap.size 27 l2 (fun j => .int .u32 (g j))) := hg
          have HG : Hid (∀ j, j < k → 3 ≤ S j → g j = tgtF S P T j) := hG
          have HF : Hid (wr.rowIs (w.heap.size + 1) 43 8 (fun j => .int .u32 (f j))) := hf
          have HB : Hid (Below w.heap.size w wr) := hb
          clear hg hG hf hb hc0 hc1 hc2
          obtain ⟨s, hs⟩ : ∃ s, S k = s := ⟨_, rfl⟩
          obtain ⟨p, hp⟩ : ∃ p, P k = p := ⟨_, rfl⟩
          obtain ⟨a, ha⟩ : ∃ a, A k = a := ⟨_, rfl⟩
          rw [hs] at g0 bs
          rw [hp] at g1 bp
          rw [ha] at gA ba
          have HS : Hid (S k = s) := hs
          have HP : Hid (P k = p) := hp
          have HA : Hid (A k = a) := ha
          clear hs hp ha
          by_cases h7 : 7 < s
          · go_wp2
            go_ret
            exact ⟨false, rfl, HB.out, by simp⟩
          · have g2 : wr.cell? ⟨w.heap.size + 1, s.toNat, none⟩ = some (.int .u32 (f s.toNat)) := HF.out.cell (by omega)
            have g3 : wr.frozen? ⟨w.heap.size + 1, s.toNat, none⟩ = false := HF.out.frozen _
            have q1 : (k : Int) < (l2 : Int) := by omega
            have q2 : s < 8 := by omega
            have q3 : 0 ≤ s := bs.1
            have HR : Hid (∀ (x : Int) (nq : Nat), RInv w.heap.size w l2 S P T ((wr.setCell ⟨w.heap.size + 1, s.toNat, none⟩ (.int .u32 x)).drewN nq) k) := fun x nq => (hI.out.putSeen s.toNat x).drewN nq
            by_cases hpf : p = f s.toNat
            · have hpf' : (p != f s.toNat) = false := by simpa using hpf
              clear hpf
              by_cases h36 : 3 ≤ s ∧ s ≤ 6
              · obtain ⟨h3, h6⟩ := h36
                by_cases ha0 : a = 0
                · have ea : (a != 0) = false := by simpa using ha0
                  clear ha0
                  go_wp2
                  go_quiet (fail)
                  go_wp2
                  go_roundg (l2 - (k + 1))
                  case measure => omega
                  case rel => exact ⟨k + 1, by omega, rfl, by go_num, ((hI.out.putSeen _ _).drewN _).putTgt _ (own_t HS.out h3 h6), ok_step hok.out (oka_own HS.out (by omega) (by omega))⟩
                · have ea : (a != 0) = true := by simpa using ha0
                  go_wp2
                  go_quiet (fail)
                  go_wp2
                  go_ret
                  exact ⟨false, rfl, (HR.out _ _).below, by simp⟩
              · by_cases hs7 : s = 7
                · have e7 : (s == 7) = true := beq_iff_eq.2 hs7
                  have H7 : Hid (s = 7) := hs7
                  have h67 : 6 < s := by omega
                  clear hs7 h36
                  by_cases hab : 1 ≤ a ∧ a ≤ (k : Int)
                  · obtain ⟨a1', ak⟩ := hab
                    have ea : (a == 0) = false := beq_eq_false_iff_ne.2 (by omega)
                    obtain ⟨b0', o0', he, _, hc⟩ := R0.out (a.toNat - 1) (by omega)
                    obtain ⟨rfl, rfl⟩ : b0 = b0' ∧ o0 = o0' := by simpa using he
                    have g6 : wr.cell? ⟨b0, o0 + (a.toNat - 1), none⟩ = some (.int .u8 (S (a.toNat - 1))) := (HB.out.cell (p := ⟨b0, o0 + (a.toNat - 1), none⟩) hb0).trans hc
                    clear he hc
                    have bu := BS.out (a.toNat - 1)
                    obtain ⟨u, hu⟩ : ∃ u, S (a.toNat - 1) = u := ⟨_, rfl⟩
                    rw [hu] at g6 bu
                    have HU : Hid (S (a.toNat - 1) = u) := hu
                    clear hu
                    by_cases hu3 : u < 3
                    · go_wp2
                      go_quiet (fail)
                      go_wp2
                      go_ret
                      exact ⟨false, rfl, (HR.out _ _).below, by simp⟩
                    · by_cases hpm : p < (m : Int)
                      · obtain ⟨b3, o3, rfl, hb3, hc3⟩ := R3.out p.toNat (by omega)
                        have g7 : wr.cell? ⟨b3, o3 + p.toNat, none⟩ = some (.int .u32 (T p.toNat)) := (HB.out.cell (p := ⟨b3, o3 + p.toNat, none⟩) hb3).trans hc3
                        have bt := BT.out p.toNat
                        clear hc3
                        obtain ⟨t, ht⟩ : ∃ t, T p.toNat = t := ⟨_, rfl⟩
                        rw [ht] at g7 bt
                        have HT : Hid (T p.toNat = t) := ht
                        clear ht
                        have g8 : wr.cell? ⟨w.heap.size, a.toNat - 1, none⟩ = some (.int .u32 (g (a.toNat - 1))) := HGR.out.cell (by omega)
                        have hgt := HG.out (a.toNat - 1) (by omega) (by rw [HU.out]; omega)
                        obtain ⟨y, hy⟩ : ∃ y, g (a.toNat - 1) = y := ⟨_, rfl⟩
                        rw [hy] at g8 hgt
                        have HY : Hid (y = tgtF S P T (a.toNat - 1)) := hgt
                        clear hy hgt
                        have q4 : (0 : Int) ≤ p := bp.1
                        have q5 : a - 1 < (l2 : Int) := by omega
                        have q6 : 0 ≤ a - 1 := by omega
                        have qw : IntKind.u32.wrap (a - 1) = a - 1 := by rw [IntKind.wrap_u32]; omega
                        by_cases hty : t = y
                        · have ety : (t != y) = false := by simpa using hty
                          have HTY : Hid (t = y) := hty
                          clear hty
                          go_wp2
                          go_quiet (fail)
                          go_wp2
                          go_quiet (fail)
                          go_wp2
                          go_roundg (l2 - (k + 1))
                          case measure => omega
                          case rel =>
                            exact ⟨k + 1, by omega, rfl, by go_num, (((hI.out.drewN _).putSeen _ _).drewN _).putTgt _ (cnt_t HS.out H7.out HP.out HT.out HTY.out), ok_step hok.out (oka_cnt HS.out H7.out HA.out HP.out HT.out HTY.out HY.out HU.out a1' ak (by omega) hpm)⟩
                        · have ety : (t != y) = true := by simpa using hty
                          go_wp2
                          go_quiet (fail)
                          go_wp2
                          go_quiet (fail)
                          go_wp2
                          go_ret
                          exact ⟨false, rfl, (((hI.out.drewN _).putSeen _ _).drewN _).below, by simp⟩
                      · go_wp2
                        go_quiet (fail)
                        go_wp2
                        go_ret
                        exact ⟨false, rfl, (HR.out _ _).below, by simp⟩
                  · rcases (show a = 0 ∨ (k : Int) < a by omega) with ha0 | hak
                    · have ea : (a == 0) = true := beq_iff_eq.2 ha0
                      clear hab ha0
                      go_wp2
                      go_quiet (fail)
                      go_wp2
                      go_ret
                      exact ⟨false, rfl, (HR.out _ _).below, by simp⟩
                    · have ea : (a == 0) = false := beq_eq_false_iff_ne.2 (by omega)
                      clear hab
                      go_wp2
                      go_quiet (fail)
                      go_wp2
                      go_ret
                      exact ⟨false, rfl, (HR.out _ _).below, by simp⟩
                · have e7 : (s == 7) = false := beq_eq_false_iff_ne.2 hs7
                  have h3 : s < 3 := by omega
                  clear h36
                  by_cases ha0 : a = 0
                  · have ea : (a != 0) = false := by simpa using ha0
                    clear ha0
                    go_wp2
                    go_quiet (fail)
                    go_wp2
                    go_roundg (l2 - (k + 1))
                    case measure => omega
                    case rel => exact ⟨k + 1, by omega, rfl, by go_num, ((hI.out.putSeen _ _).drewN _).skip (by rw [HS.out]; exact h3), ok_step hok.out (oka_own HS.out (by omega) hs7)⟩
                  · have ea : (a != 0) = true := by simpa using ha0
                    have a1' : 1 ≤ a := by omega
                    clear ha0
                    rcases (show a ≤ (k : Int) ∨ (k : Int) < a by omega) with hak | hak
                    · obtain ⟨b0', o0', he, _, hc⟩ := R0.out (a.toNat - 1) (by omega)
                      obtain ⟨rfl, rfl⟩ : b0 = b0' ∧ o0 = o0' := by simpa using he
                      have g6 : wr.cell? ⟨b0, o0 + (a.toNat - 1), none⟩ = some (.int .u8 (S (a.toNat - 1))) := (HB.out.cell (p := ⟨b0, o0 + (a.toNat - 1), none⟩) hb0).trans hc
                      clear he hc
                      have bu := BS.out (a.toNat - 1)
                      obtain ⟨u, hu⟩ : ∃ u, S (a.toNat - 1) = u := ⟨_, rfl⟩
                      rw [hu] at g6 bu
                      clear hu
                      by_cases hu2 : 2 < u
                      · go_wp2
                        go_quiet (fail)
                        go_wp2
                        go_ret
                        exact .inl ⟨rfl, (HR.out _ _).below⟩
                      · go_wp2
                        go_quiet (fail)
                        go_wp2
                        go_roundg (l2 - (k + 1))
                        case measure => omega
                        case rel => exact ⟨k + 1, by omega, rfl, by go_num, ((hI.out.putSeen _ _).drewN _).skip (by rw [HS.out]; exact h3), ok_step hok.out (oka_own HS.out (by omega) hs7)⟩
                    · go_wp2
                      go_quiet (fail)
                      go_wp2
                      go_ret
                      exact .inl ⟨rfl, (HR.out _ _).below⟩
            · have hpf' : (p != f s.toNat) = true := by simpa using hpf
              go_wp2
              go_quiet (fail)
              go_wp2
              go_ret
              exact ⟨false, rfl, below_drewN HB.out _, by simp⟩
        · have g7 : wr.cell? ⟨w.heap.size + 1, 7, none⟩ = some (.int .u32 (f 7)) := hf.cell (by omega)
          clear hg hG hf
          go_wp2
          go_ret
          exact ⟨_, rfl, hI.out.below, fun _ => ⟨trivial, trivial, fun i hi => hok.out i (by omega)⟩⟩
    · have u2 : ((l2 : Int) != (l1 : Int)) = true := by rw [bne_iff_ne]; omega
      go_enter Try.func12, Try.ntmps12
      go_wp2
      go_ret
      exact ⟨false, rfl, Below.refl _ _, by simp⟩
  · go_enter Try.func12, Try.ntmps12
    have : ((l1 : Int) != (n : Int)) = true := by rw [bne_iff_ne]; omega
    go_wp2
    go_ret
    exact ⟨false, rfl, Below.refl _ _, by simp⟩
end Go.Proofs.Qxb6604360a
