import Derived.Test.Qxb6604360aBase
namespace Go.Proofs.Qxb6604360a
open Go.RowKit Go.Deep

/-- What zzStoreReachable asks of the change at place i. -/
def Ok (S P T : Nat → Int) (m : Nat) (i : Nat) : Prop :=
  S i ≤ 7 ∧ (S i = 7 → P i < m ∧ 1 ≤ T (P i).toNat ∧ T (P i).toNat ≤ i ∧ 3 ≤ S ((T (P i).toNat).toNat - 1) ∧ S ((T (P i).toNat).toNat - 1) ≤ 6)

theorem row_set {w : World} {b t n : Nat} {k : IntKind} {f : Nat → Int} (h : w.rowIs b t n (fun j => .int k (f j))) (i : Nat) (x : Int) : ∃ g : Nat → Int, (w.setCell ⟨b, i, none⟩ (.int k x)).rowIs b t n (fun j => .int k (g j)) := by
  refine ⟨fun j => if j = i then x else f j, (h.set i (.int k x)).congr (fun j _ => ?_)⟩
  by_cases e : j = i <;> simp [e]

theorem ok_step {Q : Nat → Prop} {k : Nat} (h : ∀ i, i < k → Q i) (hk : Q k) : ∀ i, i < k + 1 → Q i := by
  intro i hi
  by_cases e : i = k
  · exact e ▸ hk
  · exact h i (by omega)

set_option maxRecDepth 100000 in
set_option maxHeartbeats 1600000 in
theorem reach8 (a0 a1 a2 : Option Addr) (n c0 l1 c1 m c2 : Nat) (S P T : Nat → Int) (w : World) (hn : n ≤ 65536) (hm : m ≤ 65536) (hl1 : l1 ≤ 65536)
    (r0 : Row .u8 w a0 n S) (r1 : Row .u32 w a1 l1 P) (r2 : Row .u32 w a2 m T)
    (bS : ∀ i, 0 ≤ S i ∧ S i ≤ 255) (bP : ∀ i, 0 ≤ P i ∧ P i ≤ 4294967295) (bT : ∀ i, 0 ≤ T i ∧ T i ≤ 4294967295) :
    Calls Try.prog 8 #[.slice a0 n c0, .slice a1 l1 c1, .slice a2 m c2] w fun e w' => ∃ r, e = .returned (.bool r) ∧ Below w.heap.size w w' ∧ (r = true → l1 = n ∧ ∀ i, i < n → Ok S P T m i) := by
  by_cases hl : l1 = n
  · subst hl
    have R0 : Hid (Row .u8 w a0 l1 S) := r0
    have R1 : Hid (Row .u32 w a1 l1 P) := r1
    have R2 : Hid (Row .u32 w a2 m T) := r2
    have BS : Hid (∀ i, 0 ≤ S i ∧ S i ≤ 255) := bS
    have BP : Hid (∀ i, 0 ≤ P i ∧ P i ≤ 4294967295) := bP
    have BT : Hid (∀ i, 0 ≤ T i ∧ T i ≤ 4294967295) := bT
    clear r0 r1 r2 bS bP bT
    go_enter Try.func8, Try.ntmps8
    go_wp2
    go_loopg [8] l1 (fun g i wr => ∃ k : Nat, k ≤ l1 ∧ g = l1 - k ∧ i = .int .i64 k ∧ (∃ f : Nat → Int, wr.rowIs w.heap.size 43 8 (fun j => .int .u32 (f j))) ∧ Below w.heap.size w wr ∧ Hid (∀ i, i < k → Ok S P T m i))
    case atStart =>
      refine ⟨0, Nat.zero_le _, rfl, rfl, ⟨fun _ => 0, World.rowIs_alloc _ _ _ _ ?_⟩, (Below.refl _ _).alloc (Nat.le_refl _) _, fun _ h => absurd h (Nat.not_lt_zero _)⟩
      intro i hi
      match i, hi with
      | 0, _ | 1, _ | 2, _ | 3, _ | 4, _ | 5, _ | 6, _ | 7, _ => rfl
      | i + 8, hi => exact absurd hi (by simp)
    case round =>
      obtain ⟨k, hk, rfl, rfl, ⟨f, hf⟩, hb, hok⟩ := hrel
      by_cases hlt : k < l1
      · obtain ⟨b0, o0, rfl, hb0, hc0⟩ := R0.out k hlt
        obtain ⟨b1, o1, rfl, hb1, hc1⟩ := R1.out k hlt
        have bs := BS.out k
        have bp := BP.out k
        have g0 : wr.cell? ⟨b0, o0 + k, none⟩ = some (.int .u8 (S k)) := (hb.cell (p := ⟨b0, o0 + k, none⟩) hb0).trans hc0
        have g1 : wr.cell? ⟨b1, o1 + k, none⟩ = some (.int .u32 (P k)) := (hb.cell (p := ⟨b1, o1 + k, none⟩) hb1).trans hc1
        have HF : Hid (wr.rowIs w.heap.size 43 8 (fun j => .int .u32 (f j))) := hf
        have HB : Hid (Below w.heap.size w wr) := hb
        clear hf hb hc0 hc1
        obtain ⟨s, hs⟩ : ∃ s, S k = s := ⟨_, rfl⟩
        obtain ⟨p, hp⟩ : ∃ p, P k = p := ⟨_, rfl⟩
        rw [hs] at g0 bs
        rw [hp] at g1 bp
        have HS : Hid (S k = s) := hs
        have HP : Hid (P k = p) := hp
        clear hs hp
        by_cases h7 : 7 < s
        · go_wp2
          go_ret
          exact ⟨false, rfl, HB.out, by simp⟩
        · have g2 : wr.cell? ⟨w.heap.size, s.toNat, none⟩ = some (.int .u32 (f s.toNat)) := HF.out.cell (by omega)
          have g3 : wr.frozen? ⟨w.heap.size, s.toNat, none⟩ = false := HF.out.frozen _
          have q1 : (k : Int) < (l1 : Int) := by omega
          have q2 : s < 8 := by omega
          have q3 : 0 ≤ s := bs.1
          have HN : ∀ (x : Int) (nq : Nat), Below w.heap.size w ((wr.setCell ⟨w.heap.size, s.toNat, none⟩ (.int .u32 x)).drewN nq) := fun x nq => below_drewN (HB.out.setCell (p := ⟨w.heap.size, s.toNat, none⟩) (Nat.le_refl _) _) nq
          have HR : ∀ (x : Int) (nq : Nat), ∃ f : Nat → Int, ((wr.setCell ⟨w.heap.size, s.toNat, none⟩ (.int .u32 x)).drewN nq).rowIs w.heap.size 43 8 (fun j => .int .u32 (f j)) := fun x nq =>
            row_set HF.out s.toNat x
          have HN' : Hid _ := HN
          have HR' : Hid _ := HR
          clear HN HR
          by_cases hpf : p = f s.toNat
          · have hpf' : (p != f s.toNat) = false := by simpa using hpf
            have HPF : Hid (p = f s.toNat) := hpf
            clear hpf
            by_cases hs7 : s = 7
            · have hs7' : (s == 7) = true := beq_iff_eq.2 hs7
              have H7 : Hid (s = 7) := hs7
              clear hs7
              by_cases hpm : p < (m : Int)
              · obtain ⟨b2, o2, rfl, hb2, hc2⟩ := R2.out p.toNat (by omega)
                have g4 : wr.cell? ⟨b2, o2 + p.toNat, none⟩ = some (.int .u32 (T p.toNat)) := (HB.out.cell (p := ⟨b2, o2 + p.toNat, none⟩) hb2).trans hc2
                have bt := BT.out p.toNat
                clear hc2
                obtain ⟨t, ht⟩ : ∃ t, T p.toNat = t := ⟨_, rfl⟩
                rw [ht] at g4 bt
                have HT : Hid (T p.toNat = t) := ht
                clear ht
                by_cases htb : 1 ≤ t ∧ t ≤ (k : Int)
                · obtain ⟨t1, tk⟩ := htb
                  have t0 : (t == 0) = false := beq_eq_false_iff_ne.2 (by omega)
                  obtain ⟨b0', o0', he, _, hc⟩ := R0.out (t.toNat - 1) (by omega)
                  obtain ⟨rfl, rfl⟩ : b0 = b0' ∧ o0 = o0' := by simpa using he
                  have g5 : wr.cell? ⟨b0, o0 + (t.toNat - 1), none⟩ = some (.int .u8 (S (t.toNat - 1))) := (HB.out.cell (p := ⟨b0, o0 + (t.toNat - 1), none⟩) hb0).trans hc
                  clear he hc
                  have bu := BS.out (t.toNat - 1)
                  obtain ⟨u, hu⟩ : ∃ u, S (t.toNat - 1) = u := ⟨_, rfl⟩
                  rw [hu] at g5 bu
                  have HU : Hid (S (t.toNat - 1) = u) := hu
                  clear hu
                  by_cases hu36 : 3 ≤ u ∧ u ≤ 6
                  · obtain ⟨u3, u6⟩ := hu36
                    go_wp2
                    go_quiet (fail)
                    go_wp2
                    go_roundg (l1 - (k + 1))
                    case measure => omega
                    case rel =>
                      exact ⟨k + 1, by omega, rfl, by go_num, HR'.out _ _, HN'.out _ _, ok_step hok.out (by unfold Ok; rw [HS.out]; exact ⟨by omega, fun _ => by rw [HP.out, HT.out, HU.out]; exact ⟨hpm, t1, tk, u3, u6⟩⟩)⟩
                  · rcases (show u < 3 ∨ 6 < u by omega) with hu3 | hu6
                    all_goals
                      clear hu36
                      go_wp2
                      go_quiet (fail)
                      go_wp2
                      go_ret
                      exact ⟨false, rfl, HN'.out _ _, by simp⟩
                · rcases (show t = 0 ∨ (k : Int) < t by omega) with ht0 | htk
                  · have t0 : (t == 0) = true := beq_iff_eq.2 ht0
                    clear htb ht0
                    go_wp2
                    go_quiet (fail)
                    go_wp2
                    go_ret
                    exact ⟨false, rfl, HN'.out _ _, by simp⟩
                  · have t0 : (t == 0) = false := beq_eq_false_iff_ne.2 (by omega)
                    clear htb
                    go_wp2
                    go_quiet (fail)
                    go_wp2
                    go_ret
                    exact ⟨false, rfl, HN'.out _ _, by simp⟩
              · go_wp2
                go_quiet (fail)
                go_wp2
                go_ret
                exact ⟨false, rfl, HN'.out _ _, by simp⟩
            · have hs7' : (s == 7) = false := beq_eq_false_iff_ne.2 hs7
              go_wp2
              go_quiet (fail)
              go_wp2
              go_roundg (l1 - (k + 1))
              case measure => omega
              case rel =>
                exact ⟨k + 1, by omega, rfl, by go_num, HR'.out _ _, HN'.out _ _, ok_step hok.out (by unfold Ok; rw [HS.out]; exact ⟨by omega, fun h => absurd h hs7⟩)⟩
          · have hpf' : (p != f s.toNat) = true := by simpa using hpf
            go_wp2
            go_quiet (fail)
            go_wp2
            go_ret
            exact ⟨false, rfl, below_drewN HB.out _, by simp⟩
      · have g7 : wr.cell? ⟨w.heap.size, 7, none⟩ = some (.int .u32 (f 7)) := hf.cell (by omega)
        go_wp2
        go_ret
        exact ⟨_, rfl, hb, fun _ => ⟨trivial, fun i hi => hok.out i (by omega)⟩⟩
  · go_enter Try.func8, Try.ntmps8
    have : ((l1 : Int) != (n : Int)) = true := by rw [bne_iff_ne]; omega
    go_wp2
    go_ret
    exact ⟨false, rfl, Below.refl _ _, by simp⟩
end Go.Proofs.Qxb6604360a
