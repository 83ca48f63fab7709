import Derived.Test.Qxb6604500aStampA
namespace Go.Proofs.Qxb6604500a
open Go.RowKit Go.Deep
set_option linter.unusedVariables false

/-- The seven cells of a stamp. -/
def mkSt (ky : ByteArray) (ct : Int) (o r f : Bool) : List Value := [.int .u64 0, .int .u8 0, .string ky, .int .u64 ct, .bool o, .bool r, .bool f]

theorem cellOf' {w : World} {b : Nat} {c : Array Value} {t : TypeId} (h : w.heap[b]? = some (.cells c t (0, 0))) (i : Nat) {v : Value} (hv : c[i]? = some v) : w.cell? ⟨b, i, none⟩ = some v := by
  rw [cell_of_row w b i c t (0, 0) h]; exact hv

theorem cell_alloc' {w : World} {a : Addr} {v : Value} (h : w.cell? a = some v) (o : Obj) : (w.alloc o).cell? a = some v := by
  rw [World.cell?_alloc_lt _ _ _ (World.block_lt_of_cell? w a h)]; exact h
theorem cell_below {B : Nat} {w wx : World} {b i : Nat} {v : Value} (hb : Below B w wx) (hlt : b < B) (h : w.cell? ⟨b, i, none⟩ = some v) : wx.cell? ⟨b, i, none⟩ = some v := by
  rw [hb.cell (p := ⟨b, i, none⟩) hlt]; exact h

/-- Where appendTo stands: the stamp in block w's end; v owns the bytes so far. -/
structure AS (w wr : World) (ky : ByteArray) (ct : Int) (o r f : Bool) (v : Value) (n : Nat) (xs : List Value) : Prop where
  below : Below w.heap.size w wr
  st : wr.heap[w.heap.size]? = some (.cells (mkSt ky ct o r f).toArray 52 (0, 0))
  own : wr.ownsRow (w.heap.size + 1) 5 1 v n xs
  lt : w.heap.size + 1 ≤ wr.heap.size

variable {w wr w' : World} {ky : ByteArray} {ct : Int} {o r f : Bool} {v v' : Value} {n n' : Nat} {xs xs' : List Value}

theorem AS.start (w : World) (ky : ByteArray) (ct : Int) (o r f : Bool) : AS w (w.alloc (.cells (mkSt ky ct o r f).toArray 52)) ky ct o r f (.slice none 0 0) 0 [] :=
  ⟨(Below.refl _ _).alloc (Nat.le_refl _) _, heap_alloc_new _ _, World.ownsRow_nil _ _ _ _, by simp⟩
theorem AS.alloc (h : AS w wr ky ct o r f v n xs) (x : Obj) : AS w (wr.alloc x) ky ct o r f v n xs :=
  ⟨h.below.alloc h.below.size x, (Below.heap_alloc _ _ _ (by have := h.lt; omega)).trans h.st, h.own.alloc _, by have := h.lt; simp; omega⟩
theorem AS.drew (h : AS w wr ky ct o r f v n xs) : AS w wr.drew ky ct o r f v n xs := ⟨h.below.drew, h.st, h.own, h.lt⟩
theorem AS.next (h : AS w wr ky ct o r f v n xs) (hb : Below (w.heap.size + 1) wr w') (hown : w'.ownsRow (w.heap.size + 1) 5 1 v' n' xs') : AS w w' ky ct o r f v' n' xs' :=
  ⟨h.below.trans (hb.mono (by omega)), (hb.block _ (by omega)).trans h.st, hown, Nat.le_trans h.lt hb.size⟩
theorem AS.grown (h : AS w wr ky ct o r f v n xs) (hg : wr.grownBy w' v.ownBlock) (hown : w'.ownsRow (w.heap.size + 1) 5 1 v' n' xs') : AS w w' ky ct o r f v' n' xs' :=
  h.next ((Below.refl _ _).grown hg h.lt (fun k hk => (h.own.lt k hk).1)) hown
theorem AS.later (h : AS w wr ky ct o r f v n xs) (hb : Below wr.heap.size wr w') : AS w w' ky ct o r f v n xs := by
  have hg : wr.grownBy w' none := ⟨hb.os, hb.tape, hb.output, hb.size, fun k hk _ => hb.block k hk⟩
  refine ⟨h.below.trans (hb.mono h.below.size), (hb.block _ (by have := h.lt; omega)).trans h.st, h.own.kept hg ?_, Nat.le_trans h.lt hb.size⟩
  cases v.ownBlock <;> simp

theorem cell_later'' {w wx : World} {a : Addr} {v : Value} (hb : Below w.heap.size w wx) (h : w.cell? a = some v) : wx.cell? a = some v := by
  rw [hb.cell (World.block_lt_of_cell? w a h)]; exact h

/-- The first n elements behind the address a are the bytes B. -/
def RowB (w : World) (a : Option Addr) (n : Nat) (B : Nat → Int) : Prop :=
  ∀ i, i < n → ∃ b o, a = some ⟨b, o, none⟩ ∧ w.cell? ⟨b, o + i, none⟩ = some (.int .u8 (B i))

/-- The number in a cell. -/
def numOf : Value → Int
  | .int _ x => x
  | _ => 0
/-- All bytes of a stamp, as cells. -/
def stampL (ky : ByteArray) (ct : Int) (o r f : Bool) : List Value := [] ++ [.int .u8 0] ++ be8 0 ++ be8 ct ++ [.int .u8 (flagB o r f)] ++ Lib.strCells ky
/-- The bytes of a stamp. -/
def stampB (ky : ByteArray) (ct : Int) (o r f : Bool) (i : Nat) : Int := numOf ((stampL ky ct o r f).getD i (.int .u8 0))

theorem stampL_u8 (ky : ByteArray) (ct : Int) (o r f : Bool) : ∀ v ∈ stampL ky ct o r f, ∃ x, v = .int .u8 x := by
  intro v hv
  simp only [stampL, be8, Lib.strCells, List.mem_append, List.mem_cons, List.mem_map, List.not_mem_nil, or_false, false_or] at hv
  rcases hv with ((((h | h) | h) | h) | h)
  all_goals first | exact ⟨_, h⟩ | (rcases h with h | h | h | h | h | h | h | h <;> exact ⟨_, h⟩) | (obtain ⟨b, _, h⟩ := h; exact ⟨_, h.symm⟩)

theorem stamp_end (h : AS w w' ky ct o r f v (0 + 1 + 8 + 8 + 1 + ky.size) (stampL ky ct o r f)) :
    ∃ a c, Ending.returned v = .returned (.slice a (18 + ky.size) c) ∧ RowB w' a (18 + ky.size) (stampB ky ct o r f) ∧ Below w.heap.size w w' := by
  have hlen := h.own.1
  rcases h.own.2 with ⟨rfl, h0⟩ | ⟨g, cap, cur, rfl, hb, hgg, hrest⟩
  · omega
  · have e18 : 0 + 1 + 8 + 8 + 1 + ky.size = 18 + ky.size := by omega
    rw [e18] at hlen hrest ⊢
    refine ⟨_, _, rfl, fun i hi => ⟨g, 0, rfl, ?_⟩, h.below⟩
    obtain ⟨_, _, _, htake⟩ := hrest
    rw [Nat.zero_add, cell_of_row w' g i cur 5 (0, 0) hgg]
    have hx : (stampL ky ct o r f)[i]? = cur[i]? := by
      rw [← htake, List.getElem?_take_of_lt (by omega)]; simp
    have hl : i < (stampL ky ct o r f).length := by omega
    have hg : (stampL ky ct o r f)[i]? = some (stampL ky ct o r f)[i] := List.getElem?_eq_getElem hl
    obtain ⟨x, ex⟩ := stampL_u8 ky ct o r f _ (List.getElem_mem hl)
    rw [← hx]
    simp only [stampB, List.getD_eq_getElem?_getD, hg, Option.getD_some, ex, numOf]

set_option maxRecDepth 100000 in
set_option maxHeartbeats 1600000 in
theorem app41 (ky : ByteArray) (ct : Int) (o r f : Bool) (w : World) (hz : ky.size ≤ 1048576) :
    Calls Try.prog 41 #[.agg (mkSt ky ct o r f).toArray, .slice none 0 0] w fun e w' => ∃ a c, e = .returned (.slice a (18 + ky.size) c) ∧ RowB w' a (18 + ky.size) (stampB ky ct o r f) ∧ Below w.heap.size w w' := by
  obtain ⟨i0, hi, hz0, hz1, hz2⟩ := info_parts Try.info5
  go_enter Try.func41, Try.ntmps41
  have hA := AS.start w ky ct o r f
  have HA : Hid _ := hA
  have c0 := cellOf' hA.st 0 (v := .int .u64 0) rfl
  have c1 := cellOf' hA.st 1 (v := .int .u8 0) rfl
  clear hA
  go_wp2_with fail
  refine (len47 _).mono ?_
  rintro e w1 ⟨rfl, rfl⟩
  have hA := HA.out.alloc (.cells #[.int .u64 0, .int .u8 0] 35)
  clear HA c0 c1
  generalize (w.alloc (.cells (mkSt ky ct o r f).toArray 52)).alloc (.cells #[.int .u64 0, .int .u8 0] 35) = w1 at hA ⊢
  have hA' := hA.alloc (.cells #[.int .u8 0] 5)
  have hlt := hA.lt
  have HA : Hid (AS w w1 ky ct o r f (.slice none 0 0) 0 []) := hA
  have HA' : Hid (AS w (w1.alloc (.cells #[.int .u8 0] 5)) ky ct o r f (.slice none 0 0) 0 []) := hA'
  clear hA hA'
  go_wp2_with (at_builtin; refine wpList_append_lies _ rfl _ _ 103 rfl (w.heap.size + 1) 5 i0 (.int .u8 0) 1 1 Try.underlying103 hi hz0 hz1 hz2 rfl (by decide) (.slice none 0 0) 0 [] rfl HA'.out.own ⟨w1.heap.size, 0, none⟩ 1 1 [.int .u8 0] rfl rfl (news_new w1 [.int .u8 0] 5) (by simp [Value.oneCell']) (by decide) (by unfold maxLen; omega) (by omega) (by simp; omega) _ rfl ?_)
  intro g1 k1 w2 hown1 hgrow1 _ _
  have hA := HA'.out.grown hgrow1 hown1
  clear hown1 hgrow1 HA' HA hlt
  have hlt := hA.lt
  have c0 := cellOf' hA.st 0 (v := .int .u64 0) rfl
  have c1 := cellOf' hA.st 1 (v := .int .u8 0) rfl
  have HA : Hid (AS w w2 ky ct o r f (.slice (some ⟨g1, 0, none⟩) (0 + 1) k1) (0 + 1) ([] ++ [.int .u8 0])) := hA
  clear hA
  go_wp2_with fail
  go_region_held3 (fun w' => w'.cell? ⟨w.heap.size, 0, none⟩ = some (.int .u64 0) ∧ w'.cell? ⟨w.heap.size, 1, none⟩ = some (.int .u8 0))
    ((go_split_ands; refine ⟨?_, ?_⟩ <;> first | assumption | (apply cell_alloc'; assumption) | (apply cell_below (by assumption) (by omega); assumption)))
    ((first | (go_at_call 49; refine (uint49 _).mono ?_; rintro e w3 ⟨rfl, rfl⟩) | (go_at_call 48; refine (app48 (w.heap.size + 1) (0 + 1) _ ([] ++ [.int .u8 0]) 0 _ (by exact (HA.out.alloc _).drew.own) (by omega) (by simp; omega)).mono ?_; rintro e w4 ⟨g2, k2, rfl, hown2, hb2⟩)))
  all_goals
    have hA := (HA.out.alloc (.cells #[.int .u64 0, .int .u8 0] 35)).drew.next hb2 hown2
    clear hb2 hown2 HA c0 c1
    have hlt := hA.lt
    have c3 := cellOf' hA.st 3 (v := .int .u64 ct) rfl
    have HA : Hid (AS w w4 ky ct o r f (.slice (some ⟨g2, 0, none⟩) (0 + 1 + 8) k2) (0 + 1 + 8) ([] ++ [.int .u8 0] ++ be8 0)) := hA
    clear hA
    go_wp2_with fail
    refine (app48 (w.heap.size + 1) (0 + 1 + 8) _ _ ct _ HA.out.own (by omega) (by omega)).mono ?_
    rintro e w5 ⟨g3, k3, rfl, hown3, hb3⟩
    have hA := HA.out.next hb3 hown3
    clear hb3 hown3 HA c3 hlt
    have hlt := hA.lt
    have s0 := cellOf' hA.st 0 (v := .int .u64 0) rfl
    have s1 := cellOf' hA.st 1 (v := .int .u8 0) rfl
    have s2 := cellOf' hA.st 2 (v := .string ky) rfl
    have s3 := cellOf' hA.st 3 (v := .int .u64 ct) rfl
    have s4 := cellOf' hA.st 4 (v := .bool o) rfl
    have s5 := cellOf' hA.st 5 (v := .bool r) rfl
    have s6 := cellOf' hA.st 6 (v := .bool f) rfl
    have HA : Hid (AS w w5 ky ct o r f (.slice (some ⟨g3, 0, none⟩) (0 + 1 + 8 + 8) k3) (0 + 1 + 8 + 8) ([] ++ [.int .u8 0] ++ be8 0 ++ be8 ct)) := hA
    clear hA
    go_wp2_with fail
    refine (flags50 ky ct o r f _).mono ?_
    rintro e w6 ⟨rfl, hb6⟩
    have hA := HA.out.later hb6
    clear hb6 HA s0 s1 s2 s3 s4 s5 s6 hlt
    have hlt := hA.lt
    have hA' := hA.alloc (.cells #[.int .u8 (flagB o r f)] 5)
    have HA' : Hid (AS w (w6.alloc (.cells #[.int .u8 (flagB o r f)] 5)) ky ct o r f (.slice (some ⟨g3, 0, none⟩) (0 + 1 + 8 + 8) k3) (0 + 1 + 8 + 8) ([] ++ [.int .u8 0] ++ be8 0 ++ be8 ct)) := hA'
    clear hA hA'
    go_wp2_with (at_builtin; refine wpList_append_lies _ rfl _ _ 103 rfl (w.heap.size + 1) 5 i0 (.int .u8 0) 1 1 Try.underlying103 hi hz0 hz1 hz2 rfl (by decide) (.slice (some ⟨g3, 0, none⟩) (0 + 1 + 8 + 8) k3) (0 + 1 + 8 + 8) _ rfl HA'.out.own ⟨w6.heap.size, 0, none⟩ 1 1 [.int .u8 (flagB o r f)] rfl rfl (news_new w6 [.int .u8 (flagB o r f)] 5) (by simp [Value.oneCell']) (by decide) (by unfold maxLen; omega) (by omega) (by simp; omega) _ rfl ?_)
    intro g4 k4 w7 hown4 hgrow4 _ _
    have hA := HA'.out.grown hgrow4 hown4
    clear hown4 hgrow4 HA' hlt
    have hlt := hA.lt
    have s2 := cellOf' hA.st 2 (v := .string ky) rfl
    have HA : Hid (AS w w7 ky ct o r f (.slice (some ⟨g4, 0, none⟩) (0 + 1 + 8 + 8 + 1) k4) (0 + 1 + 8 + 8 + 1) ([] ++ [.int .u8 0] ++ be8 0 ++ be8 ct ++ [.int .u8 (flagB o r f)])) := hA
    clear hA
    go_wp2_with (at_builtin; (refine Lib.wpList_append_own_string _ rfl _ _ 103 9 rfl (w.heap.size + 1) 5 i0 Try.underlying103 Try.underlying9 hi hz0 hz1 hz2 (.slice (some ⟨g4, 0, none⟩) (0 + 1 + 8 + 8 + 1) k4) (0 + 1 + 8 + 8 + 1) _ rfl HA.out.own ky rfl (by unfold maxLen; omega) (by omega) (by omega) ?_))
    intro v8 w8 hown8 hgrow8 _
    have hA := HA.out.grown hgrow8 hown8
    have HA' : Hid _ := hA
    clear hown8 hgrow8 HA hlt s2 hA
    go_wp2
    go_ret
    exact stamp_end HA'.out

theorem app41L (ky : ByteArray) (ct : Int) (o r f : Bool) (w : World) (hz : ky.size ≤ 1048576) :
    Calls Try.prog 41 #[.agg #[.int .u64 0, .int .u8 0, .string ky, .int .u64 ct, .bool o, .bool r, .bool f], .slice none 0 0] w fun e w' => ∃ a c, e = .returned (.slice a (18 + ky.size) c) ∧ RowB w' a (18 + ky.size) (stampB ky ct o r f) ∧ Below w.heap.size w w' :=
  app41 ky ct o r f w hz
end Go.Proofs.Qxb6604500a
