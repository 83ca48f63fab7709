import Derived.Test.Qxb6602886aZSkip
import Derived.Test.Qxb6602886aShift
import Derived.Test.Qxb6602886aClone
import Derived.Laws.AppendOwnNone
import Derived.OwnWalk
namespace Go.Proofs.Qxb6602886a
open Go.RowKit Go.Deep
set_option linter.unusedVariables false

theorem zskip20' (n c i : Nat) (iI : Int) (r : Int) (s : Bool) (a : Option Addr) (bad : Bool) (B : Nat → Int) (w : World) (hiI : iI = (i : Int)) (hr : (((skipF B n i).getD n : Nat) : Int) = r) (hs : (bad || (skipF B n i).isNone) = s)
    (hrow : RowB w a n B) (halt : ∀ b o, a = some ⟨b, o, none⟩ → b < w.heap.size) (hn : n ≤ 200000) (hi : i < n) :
    Calls Try.prog 20 #[.slice a n c, .int .i64 iI, .bool bad] w fun e w' => e = .returned (.tuple #[.int .i64 r, .bool s]) ∧ Below w.heap.size w w' := by
  subst hiI hr hs
  exact zskip20 n c i a bad B w hrow halt hn hi

/-- The first n bytes as cells. -/
def rowL (X : Nat → Int) (n : Nat) : List Value := (List.range n).map fun i => .int .u8 (X i)
theorem rowL_len (X : Nat → Int) (n : Nat) : (rowL X n).length = n * 1 := by simp [rowL]
theorem rowL_at (X : Nat → Int) (n j : Nat) (hj : j < n) : (rowL X n)[j]? = some (.int .u8 (X j)) := by simp [rowL, hj]
theorem rowL_one (X : Nat → Int) (n : Nat) : ∀ u ∈ rowL X n, u.oneCell' = true := by
  intro u hu
  simp only [rowL, List.mem_map] at hu
  obtain ⟨i, _, rfl⟩ := hu
  rfl
theorem rowL_news {w : World} {g n : Nat} {X : Nat → Int} (h : ∀ i, i < n → w.cell? ⟨g, i, none⟩ = some (.int .u8 (X i))) : ∀ j u, (rowL X n)[j]? = some u → w.cell? ((⟨g, 0, none⟩ : Addr).add j) = some u := by
  intro j u hu
  have hj : j < n := by
    have := (List.getElem?_eq_some_iff.1 hu).1
    rw [rowL_len] at this; omega
  rw [rowL_at X n j hj] at hu
  rw [Addr.add_mid, Nat.zero_add, h j hj]; exact hu

/-- The joined bytes. -/
def BJ (X0 X1 : Nat → Int) (n0 k : Nat) : Int := if k < n0 then X0 k else X1 (k - n0)
theorem BJ_past (X0 X1 : Nat → Int) (n0 k : Nat) : BJ X0 X1 n0 (n0 + k) = X1 k := by
  unfold BJ; rw [if_neg (by omega)]; congr 1; omega
theorem joined_row {w : World} {base n0 n1 : Nat} {v : Value} {X0 X1 : Nat → Int} (h : w.ownsRow base 5 1 v (n0 + n1) (rowL X0 n0 ++ rowL X1 n1)) (hp : 0 < n1) :
    ∃ g cap, v = .slice (some ⟨g, 0, none⟩) (n0 + n1) cap ∧ g < w.heap.size ∧ RowB w (some ⟨g, 0, none⟩) (n0 + n1) (BJ X0 X1 n0) := by
  rcases h.2 with ⟨rfl, h0⟩ | ⟨g, cap, cur, rfl, hb, hgg, h1, h2, h3, htake⟩
  · omega
  · refine ⟨g, cap, rfl, lt_of hgg, fun i hi => ⟨g, 0, rfl, ?_⟩⟩
    rw [Nat.zero_add, cell_of_row w g i cur 5 (0, 0) hgg]
    have hx : (rowL X0 n0 ++ rowL X1 n1)[i]? = cur[i]? := by
      rw [← htake, List.getElem?_take_of_lt (by omega)]; simp
    rw [← hx]
    by_cases hlt : i < n0
    · rw [List.getElem?_append_left (by rw [rowL_len]; omega), rowL_at _ _ _ hlt, BJ, if_pos hlt]
    · rw [List.getElem?_append_right (by rw [rowL_len]; omega), rowL_len, Nat.mul_one, rowL_at _ _ _ (by omega), BJ, if_neg hlt]

theorem skipF_le {B : Nat → Int} {n i r : Nat} (hi : i < n) (h : (skipF B n i).getD n = r) : r ≤ n := by
  subst h
  have hj : headF B i ≤ n := by unfold headF; split <;> omega
  unfold skipF
  split
  · exact Nat.le_refl _
  · cases hf : fracF B n (drun B n (headF B i)) with
    | none => exact Nat.le_refl _
    | some f =>
      have hfn := fracF_le (drun_le B n (headF B i) hj).2 hf
      show (expF B n f).getD n ≤ n
      unfold expF
      split
      · rename_i he
        split
        · exact Nat.le_refl _
        · exact (drun_le B n _ (sign_le' he.1)).2
      · exact hfn

theorem shift_getD {B B' : Nat → Int} {n p i : Nat} (hB : ∀ k, k < n → B' (p + k) = B k) (hi : i < n) : (skipF B' (p + n) (p + i)).getD (p + n) = p + (skipF B n i).getD n ∧ (skipF B' (p + n) (p + i)).isNone = (skipF B n i).isNone := by
  rw [skipF_shift hB hi]
  cases skipF B n i <;> simp

theorem law_below {w w1 w2 w5 w6 w7 : World} (h1 : Below w.heap.size w w1) (h2 : Below w1.heap.size w1 w2) (h5 : Below w2.heap.size w2 w5) (h6 : Below w5.heap.size w5 w6) (h7 : Below w6.heap.size w6 w7) : Below w.heap.size w w7 := by
  have s1 := h1.size
  have s2 := h2.size
  have s5 := h5.size
  have s6 := h6.size
  exact (((h1.trans (h2.mono s1)).trans (h5.mono (by omega))).trans (h6.mono (by omega))).trans (h7.mono (by omega))

theorem joined_row0 {w : World} {base n1 : Nat} {v : Value} {X1 : Nat → Int} (h : w.ownsRow base 5 1 v n1 (rowL X1 n1)) (hp : 0 < n1) :
    ∃ g cap, v = .slice (some ⟨g, 0, none⟩) n1 cap ∧ g < w.heap.size ∧ RowB w (some ⟨g, 0, none⟩) n1 X1 := by
  rcases h.2 with ⟨rfl, h0⟩ | ⟨g, cap, cur, rfl, hb, hgg, h1, h2, h3, htake⟩
  · omega
  · refine ⟨g, cap, rfl, lt_of hgg, fun i hi => ⟨g, 0, rfl, ?_⟩⟩
    rw [Nat.zero_add, cell_of_row w g i cur 5 (0, 0) hgg]
    have hx : (rowL X1 n1)[i]? = cur[i]? := by
      rw [← htake, List.getElem?_take_of_lt (by omega)]; simp
    rw [← hx, rowL_at _ _ _ hi]

theorem RowI.later {w w' : World} {a : Option Addr} {n : Nat} {X : Nat → Int} (h : RowI w a n X) (hb : Below w.heap.size w w') : RowI w' a n X := fun i hi => by
  obtain ⟨b, o, ha, hlt, hc⟩ := h i hi
  exact ⟨b, o, ha, Nat.lt_of_lt_of_le hlt hb.size, by rw [hb.cell (p := ⟨b, o + i, none⟩) hlt]; exact hc⟩

set_option maxRecDepth 100000 in
set_option maxHeartbeats 1600000 in
theorem law8 (a0 : Option Addr) (n0 c0 : Nat) (X0 : Nat → Int) (a1 : Option Addr) (n1 c1 : Nat) (X1 : Nat → Int) (i : Int) (bad : Bool) (w : World) (m0 : n0 ≤ maxLen) (m1 : n1 ≤ maxLen)
    (l0 : a0 = none → n0 = 0 ∧ c0 = 0) (l1 : a1 = none → n1 = 0 ∧ c1 = 0) (r0 : RowI w a0 n0 X0) (r1 : RowI w a1 n1 X1) :
    Calls Try.prog 8 #[.slice a0 n0 c0, .slice a1 n1 c1, .int .i64 i, .bool bad] w fun e w' => e = .returned (.bool true) ∧ Below w.heap.size w w' := by
  have HR : Hid ((a0 = none → n0 = 0 ∧ c0 = 0) ∧ (a1 = none → n1 = 0 ∧ c1 = 0) ∧ RowI w a0 n0 X0 ∧ RowI w a1 n1 X1) := ⟨l0, l1, r0, r1⟩
  clear l0 l1 r0 r1
  obtain ⟨i0, hti, hz0, hz1, hz2⟩ := info_parts Try.info5
  go_enter Try.func8, Try.ntmps8
  go_wp2_with fail
  refine (bytes21 a0 n0 c0 a1 n1 c1 i bad w).mono ?_
  rintro e w' ⟨q, rfl, hw⟩
  obtain rfl : w = w' := hw.symm
  clear hw
  cases q
  · go_wp2
    go_ret
    exact ⟨rfl, Below.refl _ _⟩
  by_cases t1 : (65536 : Int) < n0
  · go_wp2
    go_ret
    exact ⟨rfl, Below.refl _ _⟩
  by_cases t2 : (65536 : Int) < n1
  · go_wp2
    go_ret
    exact ⟨rfl, Below.refl _ _⟩
  by_cases t3 : i < 0
  · go_wp2
    go_ret
    exact ⟨rfl, Below.refl _ _⟩
  by_cases t4 : (n1 : Int) ≤ i
  · go_wp2
    go_ret
    exact ⟨rfl, Below.refl _ _⟩
  obtain ⟨j, rfl⟩ := Int.eq_ofNat_of_zero_le (Int.not_lt.1 t3)
  have hj : j < n1 := by omega
  go_wp2_with fail
  refine (clone10 a0 n0 c0 X0 w (by omega) HR.out.1 HR.out.2.2.1).mono ?_
  rintro e w1 ⟨hb1, hcase⟩
  have HR1 : Hid (RowI w1 a1 n1 X1) := HR.out.2.2.2.later hb1
  have HB1 : Hid (Below w.heap.size w w1) := hb1
  rcases hcase with ⟨_, hn0, rfl⟩ | ⟨g0, hg0, rfl, hc0⟩
  · subst hn0
    clear hb1
    go_wp2_with fail
    refine (clone10 a1 n1 c1 X1 w1 (by omega) HR.out.2.1 HR1.out).mono ?_
    rintro e w2 ⟨hb2, hcase⟩
    rcases hcase with ⟨_, hn1, _⟩ | ⟨g1, hg1, rfl, hc1⟩
    · omega
    have H1 : Hid (Below w1.heap.size w1 w2 ∧ g1 < w2.heap.size ∧ ∀ i, i < n1 → w2.cell? ⟨g1, i, none⟩ = some (.int .u8 (X1 i))) := ⟨hb2, hg1, hc1⟩
    clear hb2 hg1 hc1
    go_wp2_with (at_make; (refine wpList_make_own _ rfl _ _ 22 rfl w2.heap.size 5 i0 (.int .u8 0) 1 Try.underlying22 hti hz0 hz1 .i64 .i64 (n1 : Int) n1 rfl rfl rfl (by rw [hz2]; omega) (by unfold maxLen; omega) (Nat.le_refl _) ?_))
    intro w3 hown3 hgrow3
    have hB3 : Below w2.heap.size w2 w3 := (Below.refl _ _).grown hgrow3 (Nat.le_refl _) (fun k hk => by cases hk)
    have HO3 : Hid (w3.ownsRow w2.heap.size 5 1 (.slice (some ⟨w2.heap.size, 0, none⟩) 0 n1) 0 []) := hown3
    have HB3 : Hid (Below w2.heap.size w2 w3) := hB3
    have hs3 := hB3.size
    have H13 : Hid (∀ i, i < n1 → w3.cell? ⟨g1, i, none⟩ = some (.int .u8 (X1 i))) := fun i hi => by
      rw [hB3.cell (p := ⟨g1, i, none⟩) H1.out.2.1]; exact H1.out.2.2 i hi
    clear hown3 hgrow3 hB3
    go_wp2_with (first | (at_builtin; refine wpList_append_own_none rfl _ _ 22 rfl w2.heap.size 5 i0 1 Try.underlying22 hti (.slice (some ⟨w2.heap.size, 0, none⟩) 0 n1) 0 [] rfl HO3.out rfl ?_) | (at_builtin; refine wpList_append_own _ rfl _ _ 22 rfl w2.heap.size 5 i0 (.int .u8 0) 1 1 Try.underlying22 hti hz0 hz1 hz2 rfl (by decide) (.slice (some ⟨w2.heap.size, 0, none⟩) 0 n1) 0 [] rfl HO3.out ⟨g1, 0, none⟩ n1 n1 (rowL X1 n1) rfl (rowL_len _ _) (rowL_news H13.out) (rowL_one _ _) (by unfold maxLen; omega) (by omega) hs3 ?_))
    intro v5 w5 hown5 hgrow5 _
    have hB5 : Below w2.heap.size w2 w5 := HB3.out.grown hgrow5 hs3 (fun k hk => (HO3.out.lt k hk).1)
    obtain ⟨g5, k5, rfl, hg5, hrow5⟩ := joined_row0 (X1 := X1) (n1 := n1) (by simpa using hown5) (by omega)
    have HJ : Hid (g5 < w5.heap.size ∧ RowB w5 (some ⟨g5, 0, none⟩) n1 X1) := ⟨hg5, hrow5⟩
    have HB5 : Hid (Below w2.heap.size w2 w5) := hB5
    clear hown5 hgrow5 hB5 HO3 HB3 H13 hg5 hrow5 hs3
    obtain ⟨r1, hr1⟩ : ∃ r1, (skipF X1 n1 j).getD n1 = r1 := ⟨_, rfl⟩
    obtain ⟨s1, hs1⟩ : ∃ s1, (bad || (skipF X1 n1 j).isNone) = s1 := ⟨_, rfl⟩
    have hr1n : r1 ≤ n1 := skipF_le hj hr1
    have HE : Hid ((((skipF X1 n1 j).getD n1 : Nat) : Int) = (r1 : Int) ∧ (bad || (skipF X1 n1 j).isNone) = s1) := ⟨by rw [hr1], hs1⟩
    clear hr1 hs1
    have hcells : RowB w5 (some ⟨g1, 0, none⟩) n1 X1 := fun i hi => ⟨g1, 0, rfl, by rw [Nat.zero_add, HB5.out.cell (p := ⟨g1, i, none⟩) H1.out.2.1]; exact H1.out.2.2 i hi⟩
    have HC : Hid (RowB w5 (some ⟨g1, 0, none⟩) n1 X1) := hcells
    clear hcells
    go_wp2_with fail
    refine (zskip20' n1 n1 j _ r1 s1 _ bad X1 w5 rfl HE.out.1 HE.out.2 HC.out (fun b o e => by cases e; exact Nat.lt_of_lt_of_le H1.out.2.1 HB5.out.size) (by omega) hj).mono ?_
    rintro e w6 ⟨rfl, hb6⟩
    have HJ6 : Hid (g5 < w6.heap.size ∧ RowB w6 (some ⟨g5, 0, none⟩) n1 X1) := ⟨Nat.lt_of_lt_of_le HJ.out.1 hb6.size, fun i hi => by
      obtain ⟨b, o, e, hc⟩ := HJ.out.2 i hi
      cases e
      exact ⟨g5, 0, rfl, by rw [hb6.cell (p := ⟨g5, 0 + i, none⟩) HJ.out.1]; exact hc⟩⟩
    have HB6 : Hid (Below w5.heap.size w5 w6) := hb6
    clear hb6
    go_wp2_with fail
    refine (zskip20' n1 k5 j _ r1 s1 _ bad X1 w6 rfl HE.out.1 HE.out.2 HJ6.out.2 (fun b o e => by cases e; exact HJ6.out.1) (by omega) hj).mono ?_
    rintro e w7 ⟨rfl, hb7⟩
    have HB7 : Hid (Below w6.heap.size w6 w7) := hb7
    clear hb7
    go_wp2
    go_ret
    exact ⟨rfl, law_below HB1.out H1.out.1 HB5.out HB6.out HB7.out⟩
  · have H0 : Hid (g0 < w1.heap.size ∧ ∀ i, i < n0 → w1.cell? ⟨g0, i, none⟩ = some (.int .u8 (X0 i))) := ⟨hg0, hc0⟩
    clear hb1 hg0 hc0
    go_wp2_with fail
    refine (clone10 a1 n1 c1 X1 w1 (by omega) HR.out.2.1 HR1.out).mono ?_
    rintro e w2 ⟨hb2, hcase⟩
    rcases hcase with ⟨_, hn1, _⟩ | ⟨g1, hg1, rfl, hc1⟩
    · omega
    have H1 : Hid (Below w1.heap.size w1 w2 ∧ g1 < w2.heap.size ∧ ∀ i, i < n1 → w2.cell? ⟨g1, i, none⟩ = some (.int .u8 (X1 i))) := ⟨hb2, hg1, hc1⟩
    clear hb2 hg1 hc1
    go_wp2_with (at_make; (refine wpList_make_own _ rfl _ _ 22 rfl w2.heap.size 5 i0 (.int .u8 0) 1 Try.underlying22 hti hz0 hz1 .i64 .i64 ((n0 : Int) + n1) (n0 + n1) rfl rfl (by push_cast; rfl) (by rw [hz2]; omega) (by unfold maxLen; omega) (Nat.le_refl _) ?_))
    intro w3 hown3 hgrow3
    have hB3 : Below w2.heap.size w2 w3 := (Below.refl _ _).grown hgrow3 (Nat.le_refl _) (fun k hk => by cases hk)
    have HO3 : Hid (w3.ownsRow w2.heap.size 5 1 (.slice (some ⟨w2.heap.size, 0, none⟩) 0 (n0 + n1)) 0 []) := hown3
    have HB3 : Hid (Below w2.heap.size w2 w3) := hB3
    have hs3 := hB3.size
    have H03 : Hid (∀ i, i < n0 → w3.cell? ⟨g0, i, none⟩ = some (.int .u8 (X0 i))) := fun i hi => by
      rw [hB3.cell (p := ⟨g0, i, none⟩) (Nat.lt_of_lt_of_le H0.out.1 H1.out.1.size), H1.out.1.cell (p := ⟨g0, i, none⟩) H0.out.1]; exact H0.out.2 i hi
    clear hown3 hgrow3 hB3
    go_wp2_with (at_builtin; refine wpList_append_own _ rfl _ _ 22 rfl w2.heap.size 5 i0 (.int .u8 0) 1 1 Try.underlying22 hti hz0 hz1 hz2 rfl (by decide) (.slice (some ⟨w2.heap.size, 0, none⟩) 0 (n0 + n1)) 0 [] rfl HO3.out ⟨g0, 0, none⟩ n0 n0 (rowL X0 n0) rfl (rowL_len _ _) (rowL_news H03.out) (rowL_one _ _) (by unfold maxLen; omega) (by omega) hs3 ?_)
    intro v4 w4 hown4 hgrow4 _
    have hB4 : Below w2.heap.size w2 w4 := HB3.out.grown hgrow4 hs3 (fun k hk => (HO3.out.lt k hk).1)
    have HO4 : Hid (w4.ownsRow w2.heap.size 5 1 v4 n0 (rowL X0 n0)) := hown4
    have HB4 : Hid (Below w2.heap.size w2 w4) := hB4
    have hs4 := hB4.size
    have H14 : Hid (∀ i, i < n1 → w4.cell? ⟨g1, i, none⟩ = some (.int .u8 (X1 i))) := fun i hi => by
      rw [hB4.cell (p := ⟨g1, i, none⟩) H1.out.2.1]; exact H1.out.2.2 i hi
    clear hown4 hgrow4 hB4 HO3 HB3 H03
    go_wp2_with (at_builtin; refine wpList_append_own _ rfl _ _ 22 rfl w2.heap.size 5 i0 (.int .u8 0) 1 1 Try.underlying22 hti hz0 hz1 hz2 rfl (by decide) v4 n0 (rowL X0 n0) rfl HO4.out ⟨g1, 0, none⟩ n1 n1 (rowL X1 n1) rfl (rowL_len _ _) (rowL_news H14.out) (rowL_one _ _) (by unfold maxLen; omega) (by omega) hs4 ?_)
    intro v5 w5 hown5 hgrow5 _
    have hB5 : Below w2.heap.size w2 w5 := HB4.out.grown hgrow5 hs4 (fun k hk => (HO4.out.lt k hk).1)
    obtain ⟨g5, k5, rfl, hg5, hrow5⟩ := joined_row hown5 (by omega)
    have HJ : Hid (g5 < w5.heap.size ∧ RowB w5 (some ⟨g5, 0, none⟩) (n0 + n1) (BJ X0 X1 n0)) := ⟨hg5, hrow5⟩
    have HB5 : Hid (Below w2.heap.size w2 w5) := hB5
    clear hown5 hgrow5 hB5 HO4 HB4 H14 hg5 hrow5 hs3 hs4
    have HS := shift_getD (B := X1) (B' := BJ X0 X1 n0) (n := n1) (p := n0) (fun k _ => BJ_past X0 X1 n0 k) hj
    obtain ⟨r1, hr1⟩ : ∃ r1, (skipF X1 n1 j).getD n1 = r1 := ⟨_, rfl⟩
    obtain ⟨s1, hs1⟩ : ∃ s1, (bad || (skipF X1 n1 j).isNone) = s1 := ⟨_, rfl⟩
    have hr1n : r1 ≤ n1 := skipF_le hj hr1
    have HE : Hid ((((skipF X1 n1 j).getD n1 : Nat) : Int) = (r1 : Int) ∧ (bad || (skipF X1 n1 j).isNone) = s1 ∧ (((skipF (BJ X0 X1 n0) (n0 + n1) (n0 + j)).getD (n0 + n1) : Nat) : Int) = (r1 : Int) + n0 ∧ (bad || (skipF (BJ X0 X1 n0) (n0 + n1) (n0 + j)).isNone) = s1) := ⟨by rw [hr1], hs1, by rw [HS.1, hr1]; push_cast; omega, by rw [HS.2]; exact hs1⟩
    clear HS hr1 hs1
    have hcells : RowB w5 (some ⟨g1, 0, none⟩) n1 X1 := fun i hi => ⟨g1, 0, rfl, by rw [Nat.zero_add, HB5.out.cell (p := ⟨g1, i, none⟩) H1.out.2.1]; exact H1.out.2.2 i hi⟩
    have HC : Hid (RowB w5 (some ⟨g1, 0, none⟩) n1 X1) := hcells
    clear hcells
    go_wp2_with fail
    refine (zskip20' n1 n1 j _ r1 s1 _ bad X1 w5 rfl HE.out.1 HE.out.2.1 HC.out (fun b o e => by cases e; exact Nat.lt_of_lt_of_le H1.out.2.1 HB5.out.size) (by omega) hj).mono ?_
    rintro e w6 ⟨rfl, hb6⟩
    have HJ6 : Hid (g5 < w6.heap.size ∧ RowB w6 (some ⟨g5, 0, none⟩) (n0 + n1) (BJ X0 X1 n0)) := ⟨Nat.lt_of_lt_of_le HJ.out.1 hb6.size, fun i hi => by
      obtain ⟨b, o, e, hc⟩ := HJ.out.2 i hi
      cases e
      exact ⟨g5, 0, rfl, by rw [hb6.cell (p := ⟨g5, 0 + i, none⟩) HJ.out.1]; exact hc⟩⟩
    have HB6 : Hid (Below w5.heap.size w5 w6) := hb6
    clear hb6
    go_wp2_with fail
    refine (zskip20' (n0 + n1) k5 (n0 + j) _ ((r1 : Int) + n0) s1 _ bad (BJ X0 X1 n0) w6 (by push_cast; omega) HE.out.2.2.1 HE.out.2.2.2 HJ6.out.2 (fun b o e => by cases e; exact HJ6.out.1) (by omega) (by omega)).mono ?_
    rintro e w7 ⟨rfl, hb7⟩
    have HB7 : Hid (Below w6.heap.size w6 w7) := hb7
    clear hb7
    go_wp2
    go_ret
    exact ⟨rfl, law_below HB1.out H1.out.1 HB5.out HB6.out HB7.out⟩
end Go.Proofs.Qxb6602886a
