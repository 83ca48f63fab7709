import Derived.Test.Qxb6604360aRefs
import Derived.Test.Qxb6604360aChain
import Derived.Deep.MidRow
import Derived.Deep.RegionHeld3
import Derived.Test.Qxb6604360aTab
/- zzBuildElement (16), walked whole; ZZmkClass (27), ZZnewElement (28). -/
namespace Go.Proofs.Qxb6604360a
open Go.RowKit Go.Deep
set_option linter.unusedVariables false

theorem Try.info64 : (Try.prog.info? 64).map (fun i => (i.zero, i.size, i.bytes)) = some (some (.agg #[.slice none 0 0, .int .u32 0, .int .u32 0]), 3, 32) := by kernel_rfl
theorem Try.size64 : (Try.prog.info? 64).map (·.size) = some 3 := by kernel_rfl

def mkK (a : Option Addr) (l c : Nat) (x y : Int) : List Value := [.slice a l c, .int .u32 x, .int .u32 y]

theorem mkK_one (a : Option Addr) (l c : Nat) (x y : Int) : ∀ v ∈ mkK a l c x y, v.oneCell' = true := by simp [mkK, Value.oneCell']

theorem mk27 (a : Option Addr) (l c : Nat) (x y : Int) (w : World) :
    Calls Try.prog 27 #[.slice a l c, .int .u32 x, .int .u32 y] w fun e w' => e = .returned (.agg (mkK a l c x y).toArray) ∧ w' = w.alloc (.cells (mkK a l c x y).toArray 64) := by
  go_enter Try.func27, Try.ntmps27
  go_wp2
  exact bodyPost_ret (v := .agg (mkK a l c x y).toArray) (by simp [results, Try.results27, go_sem, mkK]) rfl ⟨rfl, rfl⟩

theorem there_cell {w : World} {a : Addr} {v : Value} (h : w.cell? a = some v) (o : Obj) : (w.alloc o).cell? a = some v := by
  rw [World.cell?_alloc_lt _ _ _ (World.block_lt_of_cell? w a h)]; exact h

theorem cell_sc {w : World} {b o b' o' : Nat} {vs : List Value} {v : Value} (hne : b ≠ b') (h : w.cell? ⟨b, o, none⟩ = some v) : (w.setCells b' o' vs).cell? ⟨b, o, none⟩ = some v := by
  rw [World.cell?_setCells_out _ _ _ _ _ (fun e _ => absurd e hne)]; exact h

theorem store_run {P : Program} (w : World) (b o : Nat) (cs : List Value) (ht : w.there b o cs.length) (h1 : ∀ v ∈ cs, v.oneCell' = true) :
    (storeCells ⟨b, o, none⟩ cs).run P w = .ok () (w.setCells b o cs) := by
  have := run_storeCells_cells (P := P) b o cs 0 w (fun j hj => by simpa using (ht j hj).1) (fun j hj => by simpa using (ht j hj).2) h1
  simpa using this

theorem there_later {w wx : World} {b o n : Nat} (hb : Below w.heap.size w wx) (h : w.there b o n) : wx.there b o n := fun j hj => by
  obtain ⟨h1, h2⟩ := h j hj
  obtain ⟨u, hu⟩ := Option.isSome_iff_exists.1 h1
  have hlt := World.block_lt_of_cell? w _ hu
  exact ⟨by rw [hb.cell hlt]; exact h1, by rw [hb.frozen hlt]; exact h2⟩

theorem store_K {w0 w1 : World} {b o : Nat} (hb : Below w0.heap.size w0 w1) (ht : w0.there b o 3) (cs : List Value) (hl : cs.length = 3) (h1 : ∀ v ∈ cs, v.oneCell' = true) :
    (storeCells ⟨b, o, none⟩ cs).run Try.prog (w1.alloc (.cells cs.toArray 64)) = .ok () ((w1.alloc (.cells cs.toArray 64)).setCells b o cs) :=
  store_run _ b o _ (by rw [hl]; exact World.there_alloc (there_later hb ht) _) h1

theorem mk27' (a : Option Addr) (l c : Nat) (x y : Int) : ∃ cs, Hid (cs = mkK a l c x y) ∧ cs.length = 3 ∧ (∀ v ∈ cs, v.oneCell' = true) ∧
    Hid (∀ w : World, Calls Try.prog 27 #[.slice a l c, .int .u32 x, .int .u32 y] w fun e w' => e = .returned (.agg cs.toArray) ∧ w' = w.alloc (.cells cs.toArray 64)) :=
  ⟨_, rfl, rfl, mkK_one _ _ _ _ _, fun w => mk27 a l c x y w⟩

/-- The nine cells of an element as ZZnewElement lays them. -/
def mkE (a : Option Addr) (l c : Nat) (b : Option Addr) (l1 c1 : Nat) (d : Option Addr) (l2 c2 : Nat) (x : Int) : List Value :=
  [.slice none 0 0, .slice none 0 0, .slice none 0 0, .slice a l c, .slice none 0 0, .slice b l1 c1, .slice d l2 c2, .int .u32 x, .int .i64 0]

theorem new28 (a b d : Option Addr) (l c l1 c1 l2 c2 : Nat) (x : Int) (w : World) :
    Calls Try.prog 28 #[.slice a l c, .slice b l1 c1, .slice d l2 c2, .int .u32 x] w fun e w' => e = .returned (.pointer (some ⟨w.heap.size, 0, none⟩)) ∧ w' = w.alloc (.cells (mkE a l c b l1 c1 d l2 c2 x).toArray 76) := by
  go_enter Try.func28, Try.ntmps28
  go_wp2
  go_ret
  exact ⟨rfl, rfl⟩

theorem make62 (w : World) (k : Nat) (hk : k ≤ 65536) : ∃ z, (Instr.makeSlice 62 (.int .i64 (k : Int)) (.int .i64 (k : Int))).run Try.prog w = .ok (.slice (some ⟨w.heap.size, 0, none⟩) k k) (w.alloc (.cells (madeCells z (k * 3)) 64)) := by
  obtain ⟨i, hi, hz, hs, hb⟩ := info_parts Try.info64
  have h := run_make (P := Try.prog) w 62 64 i _ Try.underlying62 hi hz .i64 .i64 (k : Int) (k : Int) (by omega) (by omega) (by rw [hb]; omega) (by omega)
  rw [hs] at h
  exact ⟨_, by simpa using h⟩

/-- What the class table holds. -/
def GoodK (H : Nat) (wr : World) (L : Nat → Nat) (V : Nat → Nat → Int) (Bf : Nat → Int) (j : Nat) (F : Nat → Value) : Prop :=
  ∀ i, i < j → ∃ a c, F (i * 3) = .slice a (L i) c ∧ RowN (H + 1) .u32 wr a (L i) (V i) ∧ F (i * 3 + 2) = .int .u32 (Bf i)

theorem cell_later' {w wx : World} {a : Addr} {v : Value} (hb : Below w.heap.size w wx) (h : w.cell? a = some v) : wx.cell? a = some v := by
  rw [hb.cell (World.block_lt_of_cell? w a h)]; exact h

theorem Try.info27'' : (Try.prog.info? 27).map (fun i => (i.zero, i.size, i.bytes)) = some (some (.int .u32 0), 1, 4) := by kernel_rfl
theorem Try.size27 : (Try.prog.info? 27).map (·.size) = some 1 := by kernel_rfl

theorem RowN.setCells {H b o : Nat} {k : IntKind} {w : World} {a : Option Addr} {n : Nat} {Z : Nat → Int} (h : RowN H k w a n Z) (hb : b < H) (vs : List Value) : RowN H k (w.setCells b o vs) a n Z := fun i hi => by
  obtain ⟨b', o', ha, h1, hlt, hc⟩ := h i hi
  have hs := (below_setCells (B := 0) (a := w) b (Nat.zero_le _) vs o w (Below.refl _ _)).size
  exact ⟨b', o', ha, h1, Nat.lt_of_lt_of_le hlt hs, cell_sc (by omega) hc⟩

theorem step_K {w wr w1 : World} {k j : Nat} {L : Nat → Nat} {V : Nat → Nat → Int} {Bf : Nat → Int} {F : Nat → Value} {o : Obj} {a' : Option Addr} {c' : Nat} {x : Int} {cs : List Value}
    (hb : Below w.heap.size w wr) (hF : wr.rowIs w.heap.size 64 (k * 3) F) (hG : GoodK w.heap.size wr L V Bf j F) (hb1 : Below wr.heap.size wr w1) (hrow : RowN wr.heap.size .u32 w1 a' (L j) (V j)) (hcs : cs = mkK a' (L j) c' x (Bf j)) :
    Hid (Below w.heap.size w ((w1.alloc o).setCells w.heap.size (j * 3) cs)) ∧ ∃ F', Hid (((w1.alloc o).setCells w.heap.size (j * 3) cs).rowIs w.heap.size 64 (k * 3) F') ∧ Hid (GoodK w.heap.size ((w1.alloc o).setCells w.heap.size (j * 3) cs) L V Bf (j + 1) F') := by
  have hl : cs.length = 3 := by rw [hcs]; rfl
  have hlt := hF.lt
  have hal : Below w1.heap.size w1 (w1.alloc o) := (Below.refl _ _).alloc (Nat.le_refl _) _
  have hrow1 : w1.rowIs w.heap.size 64 (k * 3) F := hF.of_block (hb1.block _ hlt)
  refine ⟨below_setCells _ (Nat.le_refl _) _ _ _ ((hb.trans (hb1.mono (by omega))).alloc (by have := hb1.size; omega) o), _, rowIs_setCells cs (j * 3) _ F (hrow1.alloc o), fun i hi => ?_⟩
  by_cases e : i = j
  · subst e
    rw [if_pos (by omega), if_pos (by omega), show i * 3 - i * 3 = 0 by omega, show i * 3 + 2 - i * 3 = 2 by omega, hcs]
    exact ⟨a', c', rfl, ((hrow.mono (by omega)).below hal).setCells (by omega) _, rfl⟩
  · obtain ⟨a, c, f0, hr, f2⟩ := hG i (by omega)
    rw [if_neg (by omega), if_neg (by omega)]
    exact ⟨a, c, f0, ((hr.below hb1).below hal).setCells (by omega) _, f2⟩

/-- copy(nw, newest), nw a row that was just made. -/
theorem copy_row {wr : World} {a : Option Addr} {n c : Nat} {N : Nat → Int} (h : Row .u32 wr a n N) :
    ∃ w2, (∀ ty, (Builtin.copy_ #[23, 23] ty #[.slice (some ⟨wr.heap.size, 0, none⟩) n n, .slice a n c]).run Try.prog (wr.alloc (.cells (madeCells #[.int .u32 0] n) 27)) = .ok (goInt n) w2) ∧ Below wr.heap.size wr w2 ∧
      w2.rowIs wr.heap.size 27 n (fun i => .int .u32 (N i)) := by
  have hmade := World.rowIs_made wr (.int .u32 0) n 27
  have hal : Below wr.heap.size wr (wr.alloc (.cells (madeCells #[.int .u32 0] n) 27)) := (Below.refl _ _).alloc (Nat.le_refl _) _
  by_cases h0 : n = 0
  · subst h0
    exact ⟨_, fun ty => run_copy_none (P := Try.prog) _ 23 23 ty 27 _ a 0 0 0 c Try.underlying23 Try.size27 rfl, hal, hmade.congr fun i hi => absurd hi (Nat.not_lt_zero _)⟩
  · obtain ⟨b, o, rfl, hb, hc⟩ := h 0 (by omega)
    have hl : ((List.range n).map fun i => Value.int .u32 (N i)).length = n := by simp
    have hsrc : ∀ j v, ((List.range n).map fun i => Value.int .u32 (N i))[j]? = some v → (wr.alloc (.cells (madeCells #[.int .u32 0] n) 27)).cell? ((⟨b, o, none⟩ : Addr).add j) = some v := by
      intro j v hv
      have hj : j < n := by have := (List.getElem?_eq_some_iff.1 hv).1; rw [hl] at this; exact this
      have hv' : v = .int .u32 (N j) := by simpa [hj] using hv.symm
      obtain ⟨b', o', he, hb', hc'⟩ := h j hj
      obtain ⟨rfl, rfl⟩ : b = b' ∧ o = o' := by simpa using he
      rw [hv', Addr.add_mid]
      exact there_cell hc' _
    have hr := fun ty => run_copy_cells (P := Try.prog) (wr.alloc (.cells (madeCells #[.int .u32 0] n) 27)) 23 23 ty 27 wr.heap.size 0 n n ⟨b, o, none⟩ n c ((List.range n).map fun i => Value.int .u32 (N i)) Try.underlying23 Try.size27 (by rw [hl]; exact (Nat.min_self n).symm)
        hsrc (fun j hj => by rw [Nat.zero_add, hmade.cell (by rw [hl] at hj; exact hj)]; rfl) (fun j hj => by rw [Nat.zero_add]; exact hmade.frozen _) (by simp [Value.oneCell'])
    rw [hl] at hr
    refine ⟨_, hr, below_setCells _ (Nat.le_refl _) _ _ _ hal, (rowIs_setCells _ 0 _ _ hmade).congr fun i hi => ?_⟩
    rw [if_pos (by rw [hl]; omega)]
    simp [hi]

/-- THE ELEMENT AS IT IS READ. -/
structure ElemAt (w : World) (eb cb nr k : Nat) (R N Bf : Nat → Int) (L : Nat → Nat) (V : Nat → Nat → Int) (bare : Int) : Prop where
  rem : ∃ a c, w.cell? ⟨eb, 3, none⟩ = some (.slice a nr c) ∧ Row .u32 w a nr R
  cls : w.cell? ⟨eb, 5, none⟩ = some (.slice (some ⟨cb, 0, none⟩) k k)
  new : ∃ b, w.cell? ⟨eb, 6, none⟩ = some (.slice (some ⟨b, 0, none⟩) nr nr) ∧ ∀ p, p < nr → w.cell? ⟨b, p, none⟩ = some (.int .u32 (N p))
  bare : w.cell? ⟨eb, 7, none⟩ = some (.int .u32 bare)
  row : ∀ j, j < k → ∃ a c, w.cell? ⟨cb, j * 3, none⟩ = some (.slice a (L j) c) ∧ Row .u32 w a (L j) (V j) ∧ w.cell? ⟨cb, j * 3 + 2, none⟩ = some (.int .u32 (Bf j))

theorem ElemAt.below {w w' : World} {eb cb nr k : Nat} {R N Bf : Nat → Int} {L : Nat → Nat} {V : Nat → Nat → Int} {bare : Int} (h : ElemAt w eb cb nr k R N Bf L V bare) (hb : Below w.heap.size w w') : ElemAt w' eb cb nr k R N Bf L V bare := by
  obtain ⟨a, c, h1, h2⟩ := h.rem
  obtain ⟨b, h3, h4⟩ := h.new
  exact ⟨⟨a, c, cell_later' hb h1, h2.below hb⟩, cell_later' hb h.cls, ⟨b, cell_later' hb h3, fun p hp => cell_later' hb (h4 p hp)⟩, cell_later' hb h.bare, fun j hj => by
    obtain ⟨a, c, h5, h6, h7⟩ := h.row j hj
    exact ⟨a, c, cell_later' hb h5, h6.below hb, cell_later' hb h7⟩⟩

theorem cell_new (w : World) (c : Array Value) (t i : Nat) (v : Value) (h : c[i]? = some v) : (w.alloc (.cells c t)).cell? ⟨w.heap.size, i, none⟩ = some v := by
  rw [cell_of_row (w.alloc (.cells c t)) w.heap.size i c t (0, 0) (heap_alloc_new w _)]; exact h

theorem done_E {w wr w2 w3 : World} {nr k : Nat} {R N Bf : Nat → Int} {L : Nat → Nat} {V : Nat → Nat → Int} {bare : Int} {F : Nat → Value} {a' : Option Addr} {c' : Nat}
    (hb : Below w.heap.size w wr) (hF : wr.rowIs w.heap.size 64 (k * 3) F) (hG : GoodK w.heap.size wr L V Bf k F) (hb2 : Below wr.heap.size wr w2) (hr2 : w2.rowIs wr.heap.size 27 nr (fun i => .int .u32 (N i)))
    (hb3 : Below w2.heap.size w2 w3) (hr3 : RowN w2.heap.size .u32 w3 a' nr R) :
    ElemAt (w3.alloc (.cells (mkE a' nr c' (some ⟨w.heap.size, 0, none⟩) k k (some ⟨wr.heap.size, 0, none⟩) nr nr bare).toArray 76)) w3.heap.size w.heap.size nr k R N Bf L V bare ∧
      Below w.heap.size w (w3.alloc (.cells (mkE a' nr c' (some ⟨w.heap.size, 0, none⟩) k k (some ⟨wr.heap.size, 0, none⟩) nr nr bare).toArray 76)) := by
  have hal : Below w3.heap.size w3 (w3.alloc (.cells (mkE a' nr c' (some ⟨w.heap.size, 0, none⟩) k k (some ⟨wr.heap.size, 0, none⟩) nr nr bare).toArray 76)) := (Below.refl _ _).alloc (Nat.le_refl _) _
  have hb23 : Below wr.heap.size wr w3 := hb2.trans (hb3.mono hb2.size)
  refine ⟨⟨⟨a', c', cell_new _ _ _ _ _ rfl, hr3.row.below hal⟩, cell_new _ _ _ _ _ rfl, ⟨wr.heap.size, cell_new _ _ _ _ _ rfl, fun p hp => cell_later' hal (cell_later' hb3 (hr2.cell hp))⟩, cell_new _ _ _ _ _ rfl, fun j hj => ?_⟩, ?_⟩
  · obtain ⟨a, c, f0, hr, f2⟩ := hG j hj
    exact ⟨a, c, cell_later' hal (cell_later' hb23 (by rw [hF.cell (by omega), f0])), (hr.row.below hb23).below hal, cell_later' hal (cell_later' hb23 (by rw [hF.cell (by omega), f2]))⟩
  · have h1 := hb.size
    have h2 := hb23.size
    exact (hb.trans (hb23.mono h1)).trans (hal.mono (by omega))

set_option maxRecDepth 100000 in
set_option maxHeartbeats 1600000 in
theorem build16 (a0 a1 a2 a3 a4 : Option Addr) (nr c0 k c1 c2 c3 c4 : Nat) (bare : Int) (R K Bf N : Nat → Int) (A : Nat → Option Addr) (L C : Nat → Nat) (V : Nat → Nat → Int) (w : World)
    (hnr : nr ≤ 65536) (hk : k ≤ 4096) (hL : ∀ j, j < k → L j ≤ 65536) (hnil : a0 = none → nr = 0 ∧ c0 = 0)
    (r0 : Row .u32 w a0 nr R) (r1 : RowS w a1 k A L C V) (r2 : Row .u32 w a2 k K) (r3 : Row .u32 w a3 k Bf) (r4 : Row .u32 w a4 nr N) :
    Calls Try.prog 16 #[.slice a0 nr c0, .slice a1 k c1, .slice a2 k c2, .slice a3 k c3, .slice a4 nr c4, .int .u32 bare] w fun e w' => ∃ eb cb, e = .returned (.pointer (some ⟨eb, 0, none⟩)) ∧ ElemAt w' eb cb nr k R N Bf L V bare ∧ Below w.heap.size w w' := by
  have R0 : Hid (Row .u32 w a0 nr R) := r0
  have R1 : Hid (RowS w a1 k A L C V) := r1
  have R2 : Hid (Row .u32 w a2 k K) := r2
  have R3 : Hid (Row .u32 w a3 k Bf) := r3
  have R4 : Hid (Row .u32 w a4 nr N) := r4
  have HL : Hid (∀ j, j < k → L j ≤ 65536) := hL
  have HNIL : Hid (a0 = none → nr = 0 ∧ c0 = 0) := hnil
  clear r0 r1 r2 r3 r4 hL hnil
  obtain ⟨z, hmk⟩ := make62 w k (by omega)
  go_enter Try.func16, Try.ntmps16
  go_wp2
  clear hmk
  go_loopg [14] k (fun g i wr => ∃ j : Nat, j ≤ k ∧ g = k - j ∧ i = .int .i64 j ∧ Hid (Below w.heap.size w wr) ∧ ∃ F, Hid (wr.rowIs w.heap.size 64 (k * 3) F) ∧ Hid (GoodK w.heap.size wr L V Bf j F))
  case atStart =>
    obtain ⟨f, hf⟩ := rowIs_make w z (k * 3) 64
    exact ⟨0, by omega, rfl, rfl, (Below.refl _ _).alloc (Nat.le_refl _) _, f, hf, fun i h => absurd h (Nat.not_lt_zero _)⟩
  case round =>
    obtain ⟨j, hj, rfl, rfl, hb, F, hF, hG⟩ := hrel
    by_cases hlt : j < k
    · obtain ⟨b3, o3, rfl, hb3, hc3⟩ := R3.out j hlt
      obtain ⟨b2, o2, rfl, hb2, hc2⟩ := R2.out j hlt
      obtain ⟨⟨b1, o1, rfl, hb1, hc1⟩, hrj, hnj⟩ := R1.out j hlt
      have g3 : wr.cell? ⟨b3, o3 + j, none⟩ = some (.int .u32 (Bf j)) := (hb.out.cell (p := ⟨b3, o3 + j, none⟩) hb3).trans hc3
      have g2 : wr.cell? ⟨b2, o2 + j, none⟩ = some (.int .u32 (K j)) := (hb.out.cell (p := ⟨b2, o2 + j, none⟩) hb2).trans hc2
      have g1 : wr.cell? ⟨b1, o1 + j, none⟩ = some (.slice (A j) (L j) (C j)) := (hb.out.cell (p := ⟨b1, o1 + j, none⟩) hb1).trans hc1
      have gt : wr.there w.heap.size (j * 3) 3 := there_row hF.out _ _ (by omega)
      have RJ : Hid (Row .u32 wr (A j) (L j) (V j)) := hrj.below hb.out
      have NJ : Hid (A j = none → L j = 0 ∧ C j = 0) := hnj
      clear hc3 hc2 hc1 hrj hnj
      have hne1 : b1 ≠ w.heap.size := by omega
      have hne2 : b2 ≠ w.heap.size := by omega
      have hne3 : b3 ≠ w.heap.size := by omega
      have q1 : (j : Int) < (k : Int) := by omega
      have q2 : (0 : Int) ≤ (j : Int) := by omega
      go_wp2
      go_region_held3 (fun w' => w'.cell? ⟨b1, o1 + j, none⟩ = some (.slice (A j) (L j) (C j)) ∧ w'.cell? ⟨b2, o2 + j, none⟩ = some (.int .u32 (K j)) ∧ w'.cell? ⟨b3, o3 + j, none⟩ = some (.int .u32 (Bf j)) ∧ w'.there w.heap.size (j * 3) 3)
        ((go_split_ands; refine ⟨?_, ?_, ?_, ?_⟩ <;> first | assumption | (apply there_cell; assumption) | (apply World.there_alloc; assumption) | (apply cell_sc (by assumption); assumption) | (apply World.there_setCells; assumption) | (apply cell_later' (by assumption); assumption) | (apply there_later (by assumption); assumption)))
        ((first | (go_at_call 18; refine (refs18 (A j) (L j) (C j) (V j) _ (HL.out j hlt) NJ.out (by exact fun i hi => RJ.out i hi)).mono ?_; rintro e w1 ⟨a', c', rfl, hrow1, hb1'⟩) | (go_at_call 27; obtain ⟨cs, HCS, hl3, h1c, c27⟩ := mk27' a' (L j) c' (K j) (Bf j); refine (c27.out _).mono ?_; rintro e w2 ⟨rfl, rfl⟩; have hst := store_K (w0 := wr.drew) hb1' gt cs hl3 h1c)))
      go_wp2
      go_roundg (k - (j + 1))
      case measure => omega
      case rel =>
        obtain ⟨hB', F', hF', hG'⟩ := step_K (o := .cells cs.toArray 64) hb.out hF.out hG.out ⟨hb1'.os, hb1'.tape, hb1'.output, hb1'.size, hb1'.block⟩ hrow1 HCS.out
        exact ⟨j + 1, by omega, rfl, by go_num, hB', F', hF', hG'⟩
    · obtain rfl : k = j := by omega
      have hmk := run_make_row' (P := Try.prog) 23 27 (.int .u32 0) 4 Try.underlying23 Try.info27'' rfl .i64 .i64 nr (by omega) (by omega)
      obtain ⟨w2, hcp, hb2, hrow2⟩ := copy_row (R4.out.below hb.out) (c := c4)
      clear hlt
      have HB2 : Hid (Below wr.heap.size wr w2) := hb2
      have HR2 : Hid (w2.rowIs wr.heap.size 27 nr (fun i => .int .u32 (N i))) := hrow2
      clear hb2 hrow2
      go_wp2_with fail
      refine (refs18 a0 nr c0 R _ hnr HNIL.out ((R0.out.below hb.out).below HB2.out)).mono ?_
      rintro e w3 ⟨a', c', rfl, hrow3, hb3⟩
      clear hmk hcp
      go_wp2_with fail
      refine (new28 _ _ _ _ _ _ _ _ _ _ _).mono ?_
      rintro e w4 ⟨rfl, rfl⟩
      go_wp2
      go_ret
      obtain ⟨hE, hB⟩ := done_E (bare := bare) (c' := c') hb.out hF.out hG.out HB2.out HR2.out hb3 hrow3
      exact ⟨_, _, rfl, hE, hB⟩
end Go.Proofs.Qxb6604360a
