import Derived.Test.Qxb6604360aTab
import Derived.Deep.RegionHeld3
/- zzBuildStore (9), walked whole: two tables in chunks; ZZmkChange (22), ZZmkCountPart (23), ZZnewStore (24). -/
namespace Go.Proofs.Qxb6604360a
open Go.RowKit Go.Deep
set_option linter.unusedVariables false

/-- What a chunk of changes holds. -/
def GoodC (n : Nat) (S P : Nat → Int) (r : Nat) (F : Nat → Value) : Prop :=
  ∀ i, i < 1024 → 1024 * r + i < n → F (i * 11 + 9) = .int .u8 (S (1024 * r + i)) ∧ F (i * 11 + 10) = .int .u32 (P (1024 * r + i))
/-- What a chunk of counts holds. -/
def GoodT (m : Nat) (T : Nat → Int) (r : Nat) (F : Nat → Value) : Prop :=
  ∀ i, i < 1024 → 1024 * r + i < m → F (i * 2) = .int .u32 (T (1024 * r + i))

theorem Try.info52 : (Try.prog.info? 52).map (fun i => (i.zero, i.size, i.bytes)) = some (some (.agg #[.int .u64 0, .int .u32 0, .int .u32 0, .int .u32 0, .int .u32 0, .int .u32 0, .int .u32 0, .int .i64 0, .int .u8 0, .int .u8 0, .int .u32 0]), 11, 48) := by kernel_rfl
theorem Try.info57 : (Try.prog.info? 57).map (fun i => (i.zero, i.size, i.bytes)) = some (some (.agg #[.int .u32 0, .int .u64 0]), 2, 16) := by kernel_rfl
theorem Try.info45 : (Try.prog.info? 45).map (fun i => (i.zero, i.size, i.bytes)) = some (some (.slice none 0 0), 1, 24) := by kernel_rfl
theorem Try.info55 : (Try.prog.info? 55).map (fun i => (i.zero, i.size, i.bytes)) = some (some (.slice none 0 0), 1, 24) := by kernel_rfl
theorem Try.size52 : (Try.prog.info? 52).map (·.size) = some 11 := by kernel_rfl
theorem Try.size57 : (Try.prog.info? 57).map (·.size) = some 2 := by kernel_rfl

/-- The eleven cells of a change as ZZmkChange lays them. -/
def mkC (s p a : Int) : List Value := [.int .u64 0, .int .u32 0, .int .u32 0, .int .u32 0, .int .u32 a, .int .u32 0, .int .u32 0, .int .i64 0, .int .u8 0, .int .u8 s, .int .u32 p]

theorem mk22 (s p a : Int) (w : World) :
    Calls Try.prog 22 #[.int .u8 s, .int .u32 p, .int .u32 a] w fun e w' => e = .returned (.agg (mkC s p a).toArray) ∧ w' = w.alloc (.cells (mkC s p a).toArray 52) := by
  go_enter Try.func22, Try.ntmps22
  go_wp2
  exact bodyPost_ret (v := .agg (mkC s p a).toArray) (by simp [results, Try.results22, go_sem, mkC]) rfl ⟨rfl, rfl⟩

theorem mk22' (s p a : Int) : ∃ cs, cs = mkC s p a ∧ cs.length = 11 ∧ (Try.prog.info? 52).map (·.size) = some cs.length ∧ (∀ v ∈ cs, v.oneCell' = true) ∧
    Hid (∀ w : World, Calls Try.prog 22 #[.int .u8 s, .int .u32 p, .int .u32 a] w fun e w' => e = .returned (.agg cs.toArray) ∧ w' = w.alloc (.cells cs.toArray 52)) :=
  ⟨_, rfl, rfl, Try.size52, by simp [mkC, Value.oneCell'], fun w => mk22 s p a w⟩

theorem store_run {P : Program} (w : World) (b o : Nat) (cs : List Value) (ht : w.there b o cs.length) (h1 : ∀ v ∈ cs, v.oneCell' = true) :
    (storeCells ⟨b, o, none⟩ cs).run P w = .ok () (w.setCells b o cs) := by
  have := run_storeCells_cells (P := P) b o cs 0 w (fun j hj => by simpa using (ht j hj).1) (fun j hj => by simpa using (ht j hj).2) h1
  simpa using this

theorem cell_sc {w : World} {b o b' o' : Nat} {vs : List Value} {v : Value} (hne : b ≠ b') (h : w.cell? ⟨b, o, none⟩ = some v) : (w.setCells b' o' vs).cell? ⟨b, o, none⟩ = some v := by
  rw [World.cell?_setCells_out _ _ _ _ _ (fun e _ => absurd e hne)]; exact h

theorem inner_step {wr : World} {H k st0 : Nat} {F : Nat → Value} {o : Obj} {S P : Nat → Int} {s p a : Int} {cs : List Value} (hF : wr.rowIs H 52 11264 F) (hk : k < 1024) (hcs : cs = mkC s p a) (hs : S (st0 + k) = s) (hp : P (st0 + k) = p)
    (hG : ∀ i, i < k → F (i * 11 + 9) = .int .u8 (S (st0 + i)) ∧ F (i * 11 + 10) = .int .u32 (P (st0 + i))) :
    ∃ F', ((wr.alloc o).drew.setCells H (k * 11) cs).rowIs H 52 11264 F' ∧ Hid (∀ i, i < k + 1 → F' (i * 11 + 9) = .int .u8 (S (st0 + i)) ∧ F' (i * 11 + 10) = .int .u32 (P (st0 + i))) := by
  have hl : cs.length = 11 := by rw [hcs]; rfl
  refine ⟨_, rowIs_setCells cs (k * 11) _ F (hF.alloc o).drew, fun i hi => ?_⟩
  by_cases e : i = k
  · subst e
    rw [if_pos (by omega), if_pos (by omega), show i * 11 + 9 - i * 11 = 9 by omega, show i * 11 + 10 - i * 11 = 10 by omega, hs, hp, hcs]
    exact ⟨rfl, rfl⟩
  · rw [if_neg (by omega), if_neg (by omega)]
    exact hG i (by omega)

theorem good_c {n q k st0 : Nat} {S P : Nat → Int} {F : Nat → Value} (hst : st0 = 1024 * q) (hk : ¬ (k < 1024 ∧ st0 + k < n)) (hG : ∀ i, i < k → F (i * 11 + 9) = .int .u8 (S (st0 + i)) ∧ F (i * 11 + 10) = .int .u32 (P (st0 + i))) : GoodC n S P q F := by
  intro i hi hn
  rw [← hst]
  exact hG i (by omega)

theorem next_st {st0 q : Nat} (h : st0 = 1024 * q) : Hid (st0 + 1024 = 1024 * (q + 1)) := by show _ = _; omega

theorem outer_step {w wo wr w1 : World} {B te ts size q C : Nat} {v v' : Value} {Good : Nat → (Nat → Value) → Prop} {KB : Nat → Nat} {F : Nat → Value} {o : Obj}
    (hT : Tab wr B te ts size v q Good KB) (hne : te ≠ ts) (hF : wr.rowIs C te (1024 * size) F) (hG : Good q F)
    (hown : w1.ownsRow B ts 1 v' (q + 1) (((List.range q).map fun r => chunkV (KB r)) ++ [chunkV C])) (hg : (wr.alloc o).grownBy w1 v.ownBlock)
    (hb : Below B w wo) (hbi : Below wo.heap.size wo wr) (hB : B ≤ wo.heap.size) :
    Tab w1 B te ts size v' (q + 1) Good (fun r => if r = q then C else KB r) ∧ Below B w w1 := by
  have hA : Tab (wr.alloc o) B te ts size v q Good KB := hT.below ((Below.refl _ _).alloc (Nat.le_refl _) _)
  have hs := hbi.size
  exact ⟨hA.push hne (hF.alloc o) hG hown hg, below_grown ((hb.trans (hbi.mono hB)).alloc (by omega) o) hg hA.own (by simp; omega)⟩

/-- The two cells of a count part as ZZmkCountPart lays them. -/
def mkT (t : Int) : List Value := [.int .u32 t, .int .u64 0]

theorem mk23 (t : Int) (w : World) :
    Calls Try.prog 23 #[.int .u32 t] w fun e w' => e = .returned (.agg (mkT t).toArray) ∧ w' = w.alloc (.cells (mkT t).toArray 57) := by
  go_enter Try.func23, Try.ntmps23
  go_wp2
  exact bodyPost_ret (v := .agg (mkT t).toArray) (by simp [results, Try.results23, go_sem, mkT]) rfl ⟨rfl, rfl⟩

theorem mk23' (t : Int) : ∃ cs, cs = mkT t ∧ cs.length = 2 ∧ (Try.prog.info? 57).map (·.size) = some cs.length ∧ (∀ v ∈ cs, v.oneCell' = true) ∧
    Hid (∀ w : World, Calls Try.prog 23 #[.int .u32 t] w fun e w' => e = .returned (.agg cs.toArray) ∧ w' = w.alloc (.cells cs.toArray 57)) :=
  ⟨_, rfl, rfl, Try.size57, by simp [mkT, Value.oneCell'], fun w => mk23 t w⟩

theorem inner_step2 {wr : World} {H k st0 : Nat} {F : Nat → Value} {o : Obj} {T : Nat → Int} {t : Int} {cs : List Value} (hF : wr.rowIs H 57 2048 F) (hk : k < 1024) (hcs : cs = mkT t) (ht : T (st0 + k) = t)
    (hG : ∀ i, i < k → F (i * 2) = .int .u32 (T (st0 + i))) :
    ∃ F', ((wr.alloc o).setCells H (k * 2) cs).rowIs H 57 2048 F' ∧ Hid (∀ i, i < k + 1 → F' (i * 2) = .int .u32 (T (st0 + i))) := by
  have hl : cs.length = 2 := by rw [hcs]; rfl
  refine ⟨_, rowIs_setCells cs (k * 2) _ F (hF.alloc o), fun i hi => ?_⟩
  by_cases e : i = k
  · subst e
    rw [if_pos (by omega), show i * 2 - i * 2 = 0 by omega, ht, hcs]
    rfl
  · rw [if_neg (by omega)]
    exact hG i (by omega)

theorem good_t {m q k st0 : Nat} {T : Nat → Int} {F : Nat → Value} (hst : st0 = 1024 * q) (hk : ¬ (k < 1024 ∧ st0 + k < m)) (hG : ∀ i, i < k → F (i * 2) = .int .u32 (T (st0 + i))) : GoodT m T q F := by
  intro i hi hn
  rw [← hst]
  exact hG i (by omega)

theorem slice_form {w : World} {B ts q : Nat} {v : Value} {xs : List Value} (h : w.ownsRow B ts 1 v q xs) : ∃ a l c, v = .slice a l c := by
  rcases h.2 with ⟨rfl, _⟩ | ⟨g, cap, cur, rfl, _⟩
  · exact ⟨_, _, _, rfl⟩
  · exact ⟨_, _, _, rfl⟩

theorem make55 (w : World) : ∃ z, (Instr.makeSlice 55 (.int .i64 1024) (.int .i64 1024)).run Try.prog w = .ok (.slice (some ⟨w.heap.size, 0, none⟩) 1024 1024) (w.alloc (.cells (madeCells z 2048) 57)) := by
  obtain ⟨i, hi, hz, hs, hb⟩ := info_parts Try.info57
  have h := run_make (P := Try.prog) w 55 57 i _ Try.underlying55 hi hz .i64 .i64 1024 1024 (by omega) (by omega) (by rw [hb]; decide) (by omega)
  rw [hs] at h
  exact ⟨_, h⟩

/-- The 31 cells of a changeStore as ZZnewStore lays them. -/
def mkS (a : Option Addr) (l1 c1 : Nat) (n : Int) (b : Option Addr) (l2 c2 : Nat) (m : Int) : List Value :=
  [.slice a l1 c1, .int .i64 n, .slice none 0 0, .int .i64 0, .int .i64 0, .slice none 0 0, .int .i64 0, .int .i64 0, .slice none 0 0, .int .i64 0, .pointer none, .slice none 0 0, .int .i64 0, .slice none 0 0, .int .u64 0, .slice none 0 0,
   .int .i64 0, .slice none 0 0, .int .i64 0, .slice none 0 0, .int .i64 0, .slice none 0 0, .int .i64 0, .slice none 0 0, .int .i64 0, .slice none 0 0, .int .i64 0, .slice none 0 0, .int .i64 0, .slice b l2 c2, .int .i64 m]

theorem new24 (a b : Option Addr) (l1 c1 l2 c2 : Nat) (n m : Int) (w : World) :
    Calls Try.prog 24 #[.slice a l1 c1, .int .i64 n, .slice b l2 c2, .int .i64 m] w fun e w' => e = .returned (.pointer (some ⟨w.heap.size, 0, none⟩)) ∧ w' = w.alloc (.cells (mkS a l1 c1 n b l2 c2 m).toArray 116) := by
  go_enter Try.func24, Try.ntmps24
  go_wp2
  go_ret
  exact ⟨rfl, rfl⟩

theorem cell_new (w : World) (c : Array Value) (t i : Nat) (v : Value) (h : c[i]? = some v) : (w.alloc (.cells c t)).cell? ⟨w.heap.size, i, none⟩ = some v := by
  rw [cell_of_row (w.alloc (.cells c t)) w.heap.size i c t (0, 0) (heap_alloc_new w _)]; exact h

theorem make45 (w : World) : ∃ z, (Instr.makeSlice 45 (.int .i64 1024) (.int .i64 1024)).run Try.prog w = .ok (.slice (some ⟨w.heap.size, 0, none⟩) 1024 1024) (w.alloc (.cells (madeCells z 11264) 52)) := by
  obtain ⟨i, hi, hz, hs, hb⟩ := info_parts Try.info52
  have h := run_make (P := Try.prog) w 45 52 i _ Try.underlying45 hi hz .i64 .i64 1024 1024 (by omega) (by omega) (by rw [hb]; decide) (by omega)
  rw [hs] at h
  exact ⟨_, h⟩

theorem there_cell {w : World} {a : Addr} {v : Value} (h : w.cell? a = some v) (o : Obj) : (w.alloc o).cell? a = some v := by
  rw [World.cell?_alloc_lt _ _ _ (World.block_lt_of_cell? w a h)]; exact h

set_option maxRecDepth 100000 in
set_option maxHeartbeats 800000 in
theorem build9 (a0 a1 a2 a3 : Option Addr) (n c0 c1 l2 c2 m c3 : Nat) (S P A T : Nat → Int) (w : World) (hn : n ≤ 65536) (hm : m ≤ 65536) (hl2 : l2 ≤ 65536)
    (r0 : Row .u8 w a0 n S) (r1 : Row .u32 w a1 n P) (r2 : Row .u32 w a2 l2 A) (r3 : Row .u32 w a3 m T) :
    Calls Try.prog 9 #[.slice a0 n c0, .slice a1 n c1, .slice a2 l2 c2, .slice a3 m c3] w fun e w' => ∃ sb v1 v2 q1 q2 B2 K1 K2, e = .returned (.pointer (some ⟨sb, 0, none⟩)) ∧ Below w.heap.size w w' ∧
      w'.cell? ⟨sb, 0, none⟩ = some v1 ∧ w'.cell? ⟨sb, 29, none⟩ = some v2 ∧ n ≤ 1024 * q1 ∧ m ≤ 1024 * q2 ∧ Tab w' w.heap.size 52 45 11 v1 q1 (GoodC n S P) K1 ∧ Tab w' B2 57 55 2 v2 q2 (GoodT m T) K2 := by
  have R0 : Hid (Row .u8 w a0 n S) := r0
  have R1 : Hid (Row .u32 w a1 n P) := r1
  have R2 : Hid (Row .u32 w a2 l2 A) := r2
  have R3 : Hid (Row .u32 w a3 m T) := r3
  clear r0 r1 r2 r3
  go_enter Try.func9, Try.ntmps9
  go_wp2
  go_loopg [11, 12] 65 (fun g v st wr => ∃ q st0 : Nat, ∃ KB, st = .int .i64 st0 ∧ Hid (st0 = 1024 * q) ∧ st0 < n + 1024 ∧ st0 ≤ 65536 ∧ g = 65 - q ∧ Tab wr w.heap.size 52 45 11 v q (GoodC n S P) KB ∧ Below w.heap.size w wr)
  case atStart => exact ⟨0, 0, _, rfl, rfl, by omega, by omega, rfl, Tab.start _ _ _ _ _ _, Below.refl _ _⟩
  case round =>
    obtain ⟨q, st0, KB, rfl, hst, hs1, hs2, rfl, hT, hb⟩ := hrel
    by_cases hlt : st0 < n
    · obtain ⟨z, hmk⟩ := make45 wr
      go_wp2
      clear hmk
      obtain ⟨wo, rfl⟩ : ∃ wo : World, wo = wr := ⟨_, rfl⟩
      go_loopg [14] 1024 (fun g j wx => ∃ k : Nat, k ≤ 1024 ∧ j = .int .i64 k ∧ g = 1024 - k ∧ st0 + k < n + 1024 ∧ Below wo.heap.size wo wx ∧
        ∃ F, wx.rowIs wo.heap.size 52 11264 F ∧ Hid (∀ i, i < k → F (i * 11 + 9) = .int .u8 (S (st0 + i)) ∧ F (i * 11 + 10) = .int .u32 (P (st0 + i))))
      case atStart =>
        obtain ⟨f, hf⟩ := rowIs_make wo z 11264 52
        exact ⟨0, by omega, rfl, rfl, by omega, (Below.refl _ _).alloc (Nat.le_refl _) _, f, hf, fun _ h => absurd h (Nat.not_lt_zero _)⟩
      case round =>
        obtain ⟨k, hk, rfl, rfl, hkn, hbi, F, hF, hG⟩ := hrel
        by_cases hk1 : k < 1024 ∧ st0 + k < n
        · obtain ⟨hk1, hk2⟩ := hk1
          have HT : Hid _ := hT
          have HB : Hid _ := hb
          have HBI : Hid _ := hbi
          have HF : Hid _ := hF
          obtain ⟨b0, o0, rfl, hb0, hc0⟩ := R0.out (st0 + k) hk2
          obtain ⟨b1, o1, rfl, hb1, hc1⟩ := R1.out (st0 + k) hk2
          obtain ⟨s, hs⟩ : ∃ s, S (st0 + k) = s := ⟨_, rfl⟩
          obtain ⟨p, hp⟩ : ∃ p, P (st0 + k) = p := ⟨_, rfl⟩
          have hbw : Below w.heap.size w wr := hb.trans (hbi.mono hb.size)
          have g0 : wr.cell? ⟨b0, o0 + ((st0 : Int) + (k : Int)).toNat, none⟩ = some (.int .u8 s) := by rw [show ((st0 : Int) + (k : Int)).toNat = st0 + k from by omega, hbw.cell (p := ⟨b0, o0 + (st0 + k), none⟩) hb0, hc0, hs]
          have g1 : wr.cell? ⟨b1, o1 + ((st0 : Int) + (k : Int)).toNat, none⟩ = some (.int .u32 p) := by rw [show ((st0 : Int) + (k : Int)).toNat = st0 + k from by omega, hbw.cell (p := ⟨b1, o1 + (st0 + k), none⟩) hb1, hc1, hp]
          have g2 : wr.there wo.heap.size (k * 11) 11 := there_row hF _ _ (by omega)
          have hne0 : b0 ≠ wo.heap.size := by have := hb.size; omega
          have hne1 : b1 ≠ wo.heap.size := by have := hb.size; omega
          have HS : Hid _ := hs
          have HP : Hid _ := hp
          clear hT hb hbi hF hbw hc0 hc1 hs hp
          have q1 : (k : Int) < 1024 := by omega
          have q2 : (st0 : Int) + (k : Int) < (n : Int) := by omega
          have q3 : (0 : Int) ≤ (st0 : Int) + (k : Int) := by omega
          have q4 : (0 : Int) ≤ (k : Int) := by omega
          have qw : IntKind.i64.wrap ((st0 : Int) + (k : Int)) = (st0 : Int) + (k : Int) := by rw [IntKind.wrap_i64]; omega
          have hu := Try.underlying52
          by_cases ha : st0 + k < l2
          · have q5 : (st0 : Int) + (k : Int) < (l2 : Int) := by omega
            obtain ⟨b2, o2, rfl, hb2, hc2⟩ := R2.out (st0 + k) ha
            have g3 : wr.cell? ⟨b2, o2 + (st0 + k), none⟩ = some (.int .u32 (A (st0 + k))) := by rw [(HB.out.trans (HBI.out.mono HB.out.size)).cell (p := ⟨b2, o2 + (st0 + k), none⟩) hb2, hc2]
            clear hc2
            obtain ⟨av, hav⟩ : ∃ av, A (st0 + k) = av := ⟨_, rfl⟩
            rw [hav] at g3
            clear hav
            obtain ⟨cs, hcs, hl, hi, h1, c22⟩ := mk22' s p av
            have HCS : Hid _ := hcs
            clear hcs
            have hst := store_run (P := Try.prog) ((wr.alloc (.cells cs.toArray 52)).drew) wo.heap.size (k * 11) cs (by rw [hl]; simpa using World.there_alloc g2 _) h1
            go_wp2
            go_region_held3 (fun w' => w'.cell? ⟨b0, o0 + ((st0 : Int) + (k : Int)).toNat, none⟩ = some (.int .u8 s) ∧ w'.cell? ⟨b1, o1 + ((st0 : Int) + (k : Int)).toNat, none⟩ = some (.int .u32 p) ∧ w'.there wo.heap.size (k * 11) 11)
              ((go_split_ands; refine ⟨?_, ?_, ?_⟩ <;> first | assumption | (apply there_cell; assumption) | (apply World.there_alloc; assumption) | (apply cell_sc (by assumption); assumption) | (apply World.there_setCells; assumption)))
              ((go_at_call 22; refine (c22.out _).mono ?_; rintro e w' ⟨rfl, rfl⟩))
            go_wp2
            go_roundg (1024 - (k + 1))
            case measure => omega
            case rel =>
              obtain ⟨F', hF', hG'⟩ := inner_step (H := wo.heap.size) (o := .cells cs.toArray 52) HF.out hk1 HCS.out HS.out HP.out hG.out
              exact ⟨k + 1, by omega, by go_num, rfl, by omega, below_setCells _ (Nat.le_refl _) _ _ _ ((HBI.out.alloc HBI.out.size _).drew), F', hF', hG'⟩
          · have q5 : ¬ (st0 : Int) + (k : Int) < (l2 : Int) := by omega
            obtain ⟨cs, hcs, hl, hi, h1, c22⟩ := mk22' s p 0
            have HCS : Hid _ := hcs
            clear hcs
            have hst := store_run (P := Try.prog) ((wr.alloc (.cells cs.toArray 52)).drew) wo.heap.size (k * 11) cs (by rw [hl]; simpa using World.there_alloc g2 _) h1
            go_wp2
            go_region_held3 (fun w' => w'.cell? ⟨b0, o0 + ((st0 : Int) + (k : Int)).toNat, none⟩ = some (.int .u8 s) ∧ w'.cell? ⟨b1, o1 + ((st0 : Int) + (k : Int)).toNat, none⟩ = some (.int .u32 p) ∧ w'.there wo.heap.size (k * 11) 11)
              ((go_split_ands; refine ⟨?_, ?_, ?_⟩ <;> first | assumption | (apply there_cell; assumption) | (apply World.there_alloc; assumption) | (apply cell_sc (by assumption); assumption) | (apply World.there_setCells; assumption)))
              ((go_at_call 22; refine (c22.out _).mono ?_; rintro e w' ⟨rfl, rfl⟩))
            go_wp2
            go_roundg (1024 - (k + 1))
            case measure => omega
            case rel =>
              obtain ⟨F', hF', hG'⟩ := inner_step (H := wo.heap.size) (o := .cells cs.toArray 52) HF.out hk1 HCS.out HS.out HP.out hG.out
              exact ⟨k + 1, by omega, by go_num, rfl, by omega, below_setCells _ (Nat.le_refl _) _ _ _ ((HBI.out.alloc HBI.out.size _).drew), F', hF', hG'⟩
        · have hTr : Tab wr w.heap.size 52 45 11 u11 q (GoodC n S P) KB := hT.below hbi
          have hGood : GoodC n S P q F := good_c hst.out hk1 hG.out
          have hq : q ≤ 64 := by have := hst.out; omega
          have hown0 : (wr.alloc (.cells #[chunkV wo.heap.size] 45)).ownsRow w.heap.size 45 1 u11 q ((List.range q).map fun r => chunkV (KB r)) := hTr.own.alloc _
          have hsz : w.heap.size ≤ wr.heap.size := Nat.le_trans hb.size hbi.size
          obtain ⟨i0, hi, hz0, hz1, hz2⟩ := info_parts Try.info45
          have HT : Hid _ := hTr
          have HB : Hid _ := hb
          have HBI : Hid _ := hbi
          have HF : Hid _ := hF
          have HGD : Hid _ := hGood
          clear hT hTr hb hbi hF hGood hG
          rcases (show ¬ (k : Int) < 1024 ∨ ((k : Int) < 1024 ∧ ¬ (st0 : Int) + (k : Int) < (n : Int)) by omega) with q1 | ⟨q1, q2⟩
          all_goals
            go_wp2_with (at_builtin; refine wpList_append_lies _ rfl _ _ 44 rfl w.heap.size 45 i0 (.slice none 0 0) 1 24 Try.underlying44 hi hz0 hz1 hz2 rfl (by decide) _ q _ rfl hown0 ⟨wr.heap.size, 0, none⟩ 1 1 [chunkV wo.heap.size] rfl rfl ?c1 ?c2 (by decide) ?c3 ?c4 ?c5 (wr.heap.size + 1) ?c6 ?_)
            case c1 => intro j u h; exact h
            case c2 => rfl
            case c3 => unfold maxLen; omega
            case c4 => omega
            case c5 => omega
            · intro g cap w1 hown1 hgrow _ _
              obtain ⟨hT1, hb1⟩ := outer_step HT.out (by decide) HF.out HGD.out hown1 hgrow HB.out HBI.out HB.out.size
              clear hown1 hgrow hown0
              go_wp2
              go_roundg (65 - (q + 1))
              case measure => omega
              case rel => exact ⟨q + 1, st0 + 1024, _, by go_num, next_st hst.out, by omega, by have := hst.out; omega, rfl, hT1, hb1⟩
    · obtain ⟨va, vl, vc, rfl⟩ := slice_form hT.own
      go_wp2
      obtain ⟨wa, rfl⟩ : ∃ wa : World, wa = wr := ⟨_, rfl⟩
      have HT1 : Hid (Tab wa w.heap.size 52 45 11 (.slice va vl vc) q (GoodC n S P) KB) := hT
      have HB1 : Hid (Below w.heap.size w wa) := hb
      have hq1 : Hid (n ≤ 1024 * q) := by have := hst.out; show _ ≤ _; omega
      clear hT hb hst
      go_loopg [17, 18] 65 (fun g v st wr => ∃ q st0 : Nat, ∃ KB, st = .int .i64 st0 ∧ Hid (st0 = 1024 * q) ∧ st0 < m + 1024 ∧ st0 ≤ 65536 ∧ g = 65 - q ∧ Tab wr wa.heap.size 57 55 2 v q (GoodT m T) KB ∧ Below wa.heap.size wa wr)
      case atStart => exact ⟨0, 0, _, rfl, rfl, by omega, by omega, rfl, Tab.start _ _ _ _ _ _, Below.refl _ _⟩
      case round =>
        obtain ⟨q2, st2, KB2, rfl, hst2, hs3, hs4, rfl, hT2, hb2⟩ := hrel
        by_cases hlt2 : st2 < m
        · obtain ⟨z, hmk⟩ := make55 wr
          go_wp2
          clear hmk
          obtain ⟨wo, rfl⟩ : ∃ wo : World, wo = wr := ⟨_, rfl⟩
          go_loopg [20] 1024 (fun g j wx => ∃ k : Nat, k ≤ 1024 ∧ j = .int .i64 k ∧ g = 1024 - k ∧ st2 + k < m + 1024 ∧ Below wo.heap.size wo wx ∧
            ∃ F, wx.rowIs wo.heap.size 57 2048 F ∧ Hid (∀ i, i < k → F (i * 2) = .int .u32 (T (st2 + i))))
          case atStart =>
            obtain ⟨f, hf⟩ := rowIs_make wo z 2048 57
            exact ⟨0, by omega, rfl, rfl, by omega, (Below.refl _ _).alloc (Nat.le_refl _) _, f, hf, fun _ h => absurd h (Nat.not_lt_zero _)⟩
          case round =>
            obtain ⟨k, hk, rfl, rfl, hkn, hbi, F, hF, hG⟩ := hrel
            by_cases hk1 : k < 1024 ∧ st2 + k < m
            · obtain ⟨hk1, hk2⟩ := hk1
              obtain ⟨b3, o3, rfl, hb3, hc3⟩ := R3.out (st2 + k) hk2
              have hbw : Below w.heap.size w wr := (HB1.out.trans (hb2.mono HB1.out.size)).trans (hbi.mono (Nat.le_trans HB1.out.size hb2.size))
              have g0 : wr.cell? ⟨b3, o3 + (st2 + k), none⟩ = some (.int .u32 (T (st2 + k))) := by rw [hbw.cell (p := ⟨b3, o3 + (st2 + k), none⟩) hb3, hc3]
              have g2 : wr.there wo.heap.size (k * 2) 2 := there_row hF _ _ (by omega)
              have HT : Hid _ := hT2
              have HB : Hid _ := hb2
              have HBI : Hid _ := hbi
              have HF : Hid _ := hF
              obtain ⟨s, hs⟩ : ∃ s, T (st2 + k) = s := ⟨_, rfl⟩
              rw [hs] at g0
              have HS : Hid _ := hs
              clear hT2 hb2 hbi hF hbw hc3 hs
              have q1 : (k : Int) < 1024 := by omega
              have q2 : (st2 : Int) + (k : Int) < (m : Int) := by omega
              obtain ⟨cs, hcs, hl, hi, h1, c23⟩ := mk23' s
              have HCS : Hid _ := hcs
              clear hcs
              have hst := store_run (P := Try.prog) (wr.alloc (.cells cs.toArray 57)) wo.heap.size (k * 2) cs (by rw [hl]; exact World.there_alloc g2 _) h1
              go_wp2_with (go_at_call 23; refine (c23.out _).mono ?_; rintro e w' ⟨rfl, rfl⟩)
              go_roundg (1024 - (k + 1))
              case measure => omega
              case rel =>
                obtain ⟨F', hF', hG'⟩ := inner_step2 (H := wo.heap.size) (o := .cells cs.toArray 57) HF.out hk1 HCS.out HS.out hG.out
                exact ⟨k + 1, by omega, by go_num, rfl, by omega, below_setCells _ (Nat.le_refl _) _ _ _ (HBI.out.alloc HBI.out.size _), F', hF', hG'⟩
            · have hTr : Tab wr wa.heap.size 57 55 2 u17 q2 (GoodT m T) KB2 := hT2.below hbi
              have hGood : GoodT m T q2 F := good_t hst2.out hk1 hG.out
              have hq : q2 ≤ 64 := by have := hst2.out; omega
              have hown0 : (wr.alloc (.cells #[chunkV wo.heap.size] 55)).ownsRow wa.heap.size 55 1 u17 q2 ((List.range q2).map fun r => chunkV (KB2 r)) := hTr.own.alloc _
              have hsz : wa.heap.size ≤ wr.heap.size := Nat.le_trans hb2.size hbi.size
              obtain ⟨i0, hi, hz0, hz1, hz2⟩ := info_parts Try.info55
              have HT : Hid _ := hTr
              have HB : Hid _ := hb2
              have HBI : Hid _ := hbi
              have HF : Hid _ := hF
              have HGD : Hid _ := hGood
              clear hT2 hTr hb2 hbi hF hGood hG
              rcases (show ¬ (k : Int) < 1024 ∨ ((k : Int) < 1024 ∧ ¬ (st2 : Int) + (k : Int) < (m : Int)) by omega) with q1 | ⟨q1, q3⟩
              all_goals
                go_wp2_with (at_builtin; refine wpList_append_lies _ rfl _ _ 54 rfl wa.heap.size 55 i0 (.slice none 0 0) 1 24 Try.underlying54 hi hz0 hz1 hz2 rfl (by decide) _ q2 _ rfl hown0 ⟨wr.heap.size, 0, none⟩ 1 1 [chunkV wo.heap.size] rfl rfl ?d1 ?d2 (by decide) ?d3 ?d4 ?d5 (wr.heap.size + 1) ?d6 ?_)
                case d1 => intro j u h; exact h
                case d2 => rfl
                case d3 => unfold maxLen; omega
                case d4 => omega
                case d5 => omega
                · intro g cap w1 hown1 hgrow _ _
                  obtain ⟨hT1, hb1⟩ := outer_step HT.out (by decide) HF.out HGD.out hown1 hgrow HB.out HBI.out HB.out.size
                  clear hown1 hgrow hown0
                  go_wp2
                  go_roundg (65 - (q2 + 1))
                  case measure => omega
                  case rel => exact ⟨q2 + 1, st2 + 1024, _, by go_num, next_st hst2.out, by omega, by have := hst2.out; omega, rfl, hT1, hb1⟩
        · obtain ⟨vb, ul, uc, rfl⟩ := slice_form hT2.own
          have HT2 : Hid _ := hT2
          have HB2 : Hid _ := hb2
          have hq2 : Hid (m ≤ 1024 * q2) := by have := hst2.out; show _ ≤ _; omega
          clear hT2 hb2 hst2
          go_wp2_with (go_at_call 24; refine (new24 _ _ _ _ _ _ _ _ _).mono ?_; rintro e w' ⟨rfl, rfl⟩)
          go_ret
          have hA : Below wr.heap.size wr (wr.alloc (.cells (mkS va vl vc n vb ul uc m).toArray 116)) := (Below.refl _ _).alloc (Nat.le_refl _) _
          exact ⟨wr.heap.size, .slice va vl vc, .slice vb ul uc, q, q2, wa.heap.size, KB, KB2, rfl, (HB1.out.trans (HB2.out.mono HB1.out.size)).trans (hA.mono (Nat.le_trans HB1.out.size HB2.out.size)),
            cell_new wr _ 116 0 _ rfl, cell_new wr _ 116 29 _ rfl, hq1.out, hq2.out, (HT1.out.below HB2.out).below hA, HT2.out.below hA⟩
end Go.Proofs.Qxb6604360a
