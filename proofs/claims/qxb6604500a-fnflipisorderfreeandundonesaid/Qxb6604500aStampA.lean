import Derived.Test.Qxb6604500aProg
import Derived.WalkKit
import Derived.WalkSpells
import Derived.WalkLawsBesides
import Derived.Deep.LoopGhost
import Derived.Deep.OwnRows
import Derived.Deep.QuietTactic
import Derived.BigQuiet
import Derived.Deep.RegionHeld3
import Derived.Deep.AppendLies
import Derived.Lib.AppendStr
namespace Go.Proofs.Qxb6604500a
open Go.RowKit Go.Deep
set_option linter.unusedVariables false

theorem Try.info5 : (Try.prog.info? 5).map (fun i => (i.zero, i.size, i.bytes)) = some (some (.int .u8 0), 1, 1) := by kernel_rfl

theorem len47 (w : World) :
    Calls Try.prog 47 #[.agg #[.int .u64 0, .int .u8 0]] w fun e w' => e = .returned (.int .i64 0) ∧ w' = w.alloc (.cells #[.int .u64 0, .int .u8 0] 35) := by
  go_enter Try.func47, Try.ntmps47
  go_wp2
  go_ret
  exact ⟨rfl, rfl⟩
theorem uint49 (w : World) :
    Calls Try.prog 49 #[.agg #[.int .u64 0, .int .u8 0]] w fun e w' => e = .returned (.int .u64 0) ∧ w' = w.alloc (.cells #[.int .u64 0, .int .u8 0] 35) := by
  go_enter Try.func49, Try.ntmps49
  go_wp2
  go_ret
  exact ⟨rfl, rfl⟩

/-- A uint64 as eight bytes, the greatest first. -/
def be8 (x : Int) : List Value :=
  [.int .u8 (x / 72057594037927936 % 256), .int .u8 (x / 281474976710656 % 256), .int .u8 (x / 1099511627776 % 256), .int .u8 (x / 4294967296 % 256),
   .int .u8 (x / 16777216 % 256), .int .u8 (x / 65536 % 256), .int .u8 (x / 256 % 256), .int .u8 (x % 256)]

theorem be8_one (x : Int) : ∀ u ∈ be8 x, u.oneCell' = true := by simp [be8, Value.oneCell']

theorem news_new (w : World) (l : List Value) (t : TypeId) : ∀ j u, l[j]? = some u → (w.alloc (.cells l.toArray t)).cell? ((⟨w.heap.size, 0, none⟩ : Addr).add j) = some u := by
  intro j u hu
  rw [Addr.add_mid, Nat.zero_add, cell_of_row (w.alloc (.cells l.toArray t)) w.heap.size j _ t (0, 0) (heap_alloc_new w _)]
  simpa using hu

set_option maxRecDepth 100000 in
set_option maxHeartbeats 800000 in
theorem app48 (base n : Nat) (v : Value) (xs : List Value) (x : Int) (w : World) (hown : w.ownsRow base 5 1 v n xs) (hn : n ≤ 1000) (hb : base ≤ w.heap.size) :
    Calls Try.prog 48 #[.agg #[], v, .int .u64 x] w fun e w' => ∃ g cap, e = .returned (.slice (some ⟨g, 0, none⟩) (n + 8) cap) ∧ w'.ownsRow base 5 1 (.slice (some ⟨g, 0, none⟩) (n + 8) cap) (n + 8) (xs ++ be8 x) ∧ Below base w w' := by
  obtain ⟨i0, hi, hz0, hz1, hz2⟩ := info_parts Try.info5
  have HO : Hid (w.ownsRow base 5 1 v n xs) := hown
  have hown2 : ((w.alloc (.cells #[] 116)).alloc (.cells (be8 x).toArray 5)).ownsRow base 5 1 v n xs := (hown.alloc _).alloc _
  have HO2 : Hid _ := hown2
  clear hown hown2
  go_enter Try.func48, Try.ntmps48
  go_wp2_with (at_builtin; refine wpList_append_lies _ rfl _ _ 103 rfl base 5 i0 (.int .u8 0) 1 1 Try.underlying103 hi hz0 hz1 hz2 rfl (by decide) v n xs rfl HO2.out ⟨w.heap.size + 1, 0, none⟩ 8 8 (be8 x) rfl rfl ?c1 (be8_one x) (by decide) ?c3 ?c4 ?c5 (w.heap.size + 2) ?c6 ?_)
  case c1 =>
    intro j u hu
    have h := news_new (w.alloc (.cells #[] 116)) (be8 x) 5 j u hu
    rw [World.size_alloc] at h
    exact h
  case c3 => unfold maxLen; omega
  case c4 => omega
  case c5 => simp; omega
  case c6 => simp
  · intro g cap w1 hown1 hgrow _ _
    have hB : Below base w w1 := (((Below.refl base w).alloc hb _).alloc (by simp; omega) _).grown hgrow (by simp; omega) (fun k hk => (HO.out.lt k hk).1)
    clear hgrow
    have HO1 : Hid _ := hown1
    clear hown1
    go_wp2
    go_ret
    exact ⟨g, cap, rfl, HO1.out, hB⟩

theorem marks57 (b : Nat) (w : World) :
    Calls Try.prog 57 #[.pointer (some ⟨b, 0, none⟩)] w fun e w' => e = .returned (.agg #[.pointer (some ⟨b, 4, none⟩), .pointer (some ⟨b, 5, none⟩), .pointer (some ⟨b, 6, none⟩)]) ∧ Below w.heap.size w w' := by
  go_enter Try.func57, Try.ntmps57
  go_wp2
  go_region
  all_goals
    go_wp2
    exact bodyPost_ret (v := .agg #[.pointer (some ⟨b, 4, none⟩), .pointer (some ⟨b, 5, none⟩), .pointer (some ⟨b, 6, none⟩)]) (by simp [results, Try.results57, go_sem]) rfl ⟨rfl, ((Below.refl _ _).alloc (Nat.le_refl _) _).drew⟩

/-- The marks as one byte. -/
def flagB (o r f : Bool) : Int := (if o then 1 else 0) + (if r then 2 else 0) + (if f then 4 else 0)
def flag1 (o : Bool) : Int := if o then 1 else 0
def flag2 (o r : Bool) : Int := (if o then 1 else 0) + (if r then 2 else 0)

set_option maxRecDepth 100000 in
set_option maxHeartbeats 1600000 in
theorem flags50 (ky : ByteArray) (ct : Int) (o r f : Bool) (w : World) :
    Calls Try.prog 50 #[.agg #[.int .u64 0, .int .u8 0, .string ky, .int .u64 ct, .bool o, .bool r, .bool f]] w fun e w' => e = .returned (.int .u8 (flagB o r f)) ∧ Below w.heap.size w w' := by
  have i0 : ∀ (p q s : Value) w, (Instr.index 126 (.agg #[p, q, s]) (.int .i64 0)).run Try.prog w = .ok p w := fun _ _ _ _ => by kernel_rfl
  have i1 : ∀ (p q s : Value) w, (Instr.index 126 (.agg #[p, q, s]) (.int .i64 1)).run Try.prog w = .ok q w := fun _ _ _ _ => by kernel_rfl
  have i2 : ∀ (p q s : Value) w, (Instr.index 126 (.agg #[p, q, s]) (.int .i64 2)).run Try.prog w = .ok s w := fun _ _ _ _ => by kernel_rfl
  go_enter Try.func50, Try.ntmps50
  go_wp2_with fail
  refine (marks57 _ _).mono ?_
  rintro e w1 ⟨rfl, hb⟩
  have c4 : w1.cell? ⟨w.heap.size, 4, none⟩ = some (.bool o) := by rw [hb.cell (p := ⟨w.heap.size, 4, none⟩) (by simp), cell_of_row _ _ _ _ _ _ (heap_alloc_new w _)]; rfl
  have c5 : w1.cell? ⟨w.heap.size, 5, none⟩ = some (.bool r) := by rw [hb.cell (p := ⟨w.heap.size, 5, none⟩) (by simp), cell_of_row _ _ _ _ _ _ (heap_alloc_new w _)]; rfl
  have c6 : w1.cell? ⟨w.heap.size, 6, none⟩ = some (.bool f) := by rw [hb.cell (p := ⟨w.heap.size, 6, none⟩) (by simp), cell_of_row _ _ _ _ _ _ (heap_alloc_new w _)]; rfl
  have hB : Below w.heap.size w w1 := ((Below.refl _ _).alloc (Nat.le_refl _) _).trans (hb.mono (by simp))
  have HB : Hid (Below w.heap.size w w1) := hB
  clear hb hB
  cases o <;> cases r <;> cases f
  all_goals
    go_wp2
    refine wp_loop_rounds 4 ?_
    rw [rounds_succ]
    go_wp2
    rw [rounds_succ]
    go_wp2
    rw [rounds_succ]
    go_wp2
    rw [rounds_succ]
    go_wp2
    go_ret
    exact ⟨rfl, HB.out⟩
end Go.Proofs.Qxb6604500a
