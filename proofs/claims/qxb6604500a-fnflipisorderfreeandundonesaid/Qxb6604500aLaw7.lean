import Derived.Test.Qxb6604500aFlipZ
namespace Go.Proofs.Qxb6604500a
open Go.RowKit Go.Deep
set_option linter.unusedVariables false

theorem IS.start {w w2 w3 : World} (hb2 : Below w.heap.size w w2) (A B : List Value) (hb : Below (w2.alloc (.cells A.toArray 54)).heap.size (w2.alloc (.cells A.toArray 54)) w3) : IS w (w3.alloc (.cells B.toArray 54)) w2.heap.size w3.heap.size A B := by
  have h3 : w3.heap[w2.heap.size]? = some (.cells A.toArray 54 (0, 0)) := (hb.block _ (by simp)).trans (heap_alloc_new _ _)
  have hs := hb.size
  rw [World.size_alloc] at hs
  have hB3 : Below w.heap.size w w3 := (hb2.alloc hb2.size _).trans (hb.mono (by have := hb2.size; simp; omega))
  exact ⟨hB3.alloc hB3.size _, (Below.heap_alloc _ _ _ (lt_of h3)).trans h3, heap_alloc_new _ _⟩

theorem law_eqs (cn sm a b : Int) (hcn : -9223372036854775808 ≤ cn ∧ cn ≤ 9223372036854775807) (hsm : 0 ≤ sm ∧ sm < 18446744073709551616) (ha : 0 ≤ a ∧ a < 18446744073709551616) (hb : 0 ≤ b ∧ b < 18446744073709551616) :
    ∃ C1 C2 SA SB S : Int, wrap64 (cn + 2) = C2 ∧ wrap64 (cn + 1) = C1 ∧ X sm a = SA ∧ wrap64 (C1 + 1) = C2 ∧ X SA b = S ∧ X sm b = SB ∧ X SB a = S ∧ wrap64 (C2 - 1) = C1 ∧ X S a = SB ∧ wrap64 (C1 - 1) = cn ∧ X SB b = sm := by
  refine ⟨wrap64 (cn + 1), wrap64 (cn + 2), X sm a, X sm b, X (X sm a) b, rfl, rfl, rfl, ?_, rfl, rfl, X_comm hsm hb ha, ?_, ?_, ?_, X_cancel hsm hb⟩
  · unfold wrap64; omega
  · unfold wrap64; omega
  · rw [X_comm hsm ha hb, X_cancel (X_range hsm hb) ha]
  · unfold wrap64; omega

set_option maxRecDepth 100000 in
set_option maxHeartbeats 1600000 in
theorem law7 (cn sm : Int) (x0 : Int) (x1 x2 x3 : ByteArray) (x4 : Int) (x5 x6 x7 : Bool) (y0 : Int) (y1 y2 y3 : ByteArray) (y4 : Int) (y5 y6 y7 : Bool) (w : World)
    (hcn : -9223372036854775808 ≤ cn ∧ cn ≤ 9223372036854775807) (hsm : 0 ≤ sm ∧ sm < 18446744073709551616) :
    Calls Try.prog 7 #[.int .i64 cn, .int .u64 sm, .agg #[.int .u8 x0, .string x1, .string x2, .string x3, .int .u64 x4, .bool x5, .bool x6, .bool x7], .agg #[.int .u8 y0, .string y1, .string y2, .string y3, .int .u64 y4, .bool y5, .bool y6, .bool y7]] w fun e w' => e = .returned (.bool true) ∧ Below w.heap.size w w' := by
  obtain ⟨C1, C2, SA, SB, S, he2, HE0⟩ := law_eqs cn sm (hashF x0 x4 x1 x2 x3 x5 x6 x7) (hashF y0 y4 y1 y2 y3 y5 y6 y7) hcn hsm (hash_range _ _ _ _ _ _ _ _) (hash_range _ _ _ _ _ _ _ _)
  have HE : Hid _ := HE0
  clear HE0
  go_enter Try.func7, Try.ntmps7
  have hL := LS.start w (mkP x0 x1 x2 x3 x4 x5 x6 x7) (mkP y0 y1 y2 y3 y4 y5 y6 y7)
  have HL : Hid _ := hL
  clear hL
  go_wp2_with fail
  refine (bytes22 cn sm x0 x1 x2 x3 x4 x5 x6 x7 y0 y1 y2 y3 y4 y5 y6 y7 _).mono ?_
  rintro e w1 ⟨q, rfl, hb⟩
  have hL := HL.out.later hb
  clear HL hb
  have a1 := cellOf hL.a 1 (v := .string x1) rfl
  have a2 := cellOf hL.a 2 (v := .string x2) rfl
  have a3 := cellOf hL.a 3 (v := .string x3) rfl
  have b1 := cellOf hL.b 1 (v := .string y1) rfl
  have b2 := cellOf hL.b 2 (v := .string y2) rfl
  have b3 := cellOf hL.b 3 (v := .string y3) rfl
  have HL : Hid (LS w w1 (mkP x0 x1 x2 x3 x4 x5 x6 x7) (mkP y0 y1 y2 y3 y4 y5 y6 y7)) := hL
  clear hL
  cases q
  · go_wp2
    go_ret
    exact ⟨rfl, HL.out.below⟩
  by_cases t1 : (1048576 : Int) < x1.size
  · go_wp2
    go_ret
    exact ⟨rfl, HL.out.below⟩
  by_cases t2 : (1048576 : Int) < x2.size
  · go_wp2
    go_ret
    exact ⟨rfl, HL.out.below⟩
  by_cases t3 : (1048576 : Int) < x3.size
  · go_wp2
    go_ret
    exact ⟨rfl, HL.out.below⟩
  by_cases t4 : (1048576 : Int) < y1.size
  · go_wp2
    go_ret
    exact ⟨rfl, HL.out.below⟩
  by_cases t5 : (1048576 : Int) < y2.size
  · go_wp2
    go_ret
    exact ⟨rfl, HL.out.below⟩
  by_cases t6 : (1048576 : Int) < y3.size
  · go_wp2
    go_ret
    exact ⟨rfl, HL.out.below⟩
  by_cases t7 : (1048576 : Int) < x1.size + x2.size + x3.size + y1.size + y2.size + y3.size
  · go_wp2
    go_ret
    exact ⟨rfl, HL.out.below⟩
  have s1 : x1.size ≤ 1048576 := by omega
  have s2 : x2.size ≤ 1048576 := by omega
  have s3 : x3.size ≤ 1048576 := by omega
  have s4 : y1.size ≤ 1048576 := by omega
  have s5 : y2.size ≤ 1048576 := by omega
  have s6 : y3.size ≤ 1048576 := by omega
  have a0 := cellOf HL.out.a 0 (v := .int .u8 x0) rfl
  have a4 := cellOf HL.out.a 4 (v := .int .u64 x4) rfl
  have a5 := cellOf HL.out.a 5 (v := .bool x5) rfl
  have a6 := cellOf HL.out.a 6 (v := .bool x6) rfl
  have a7 := cellOf HL.out.a 7 (v := .bool x7) rfl
  go_wp2_with fail
  refine (mk23 x0 x4 x1 x2 x3 x5 x6 x7 _).mono ?_
  rintro e w2 ⟨rfl, hb⟩
  have hL := HL.out.later hb
  clear HL hb a0 a1 a2 a3 a4 a5 a6 a7 b1 b2 b3 t1 t2 t3 t4 t5 t6 t7
  have b0 := cellOf (hL.alloc (.cells #[.int .u8 x0, .string x1, .string x2, .int .u64 0, .int .u8 0, .string x3, .int .u64 x4, .bool x5, .bool x6, .bool x7] 54)).b 0 (v := .int .u8 y0) rfl
  have b1 := cellOf (hL.alloc (.cells #[.int .u8 x0, .string x1, .string x2, .int .u64 0, .int .u8 0, .string x3, .int .u64 x4, .bool x5, .bool x6, .bool x7] 54)).b 1 (v := .string y1) rfl
  have b2 := cellOf (hL.alloc (.cells #[.int .u8 x0, .string x1, .string x2, .int .u64 0, .int .u8 0, .string x3, .int .u64 x4, .bool x5, .bool x6, .bool x7] 54)).b 2 (v := .string y2) rfl
  have b3 := cellOf (hL.alloc (.cells #[.int .u8 x0, .string x1, .string x2, .int .u64 0, .int .u8 0, .string x3, .int .u64 x4, .bool x5, .bool x6, .bool x7] 54)).b 3 (v := .string y3) rfl
  have b4 := cellOf (hL.alloc (.cells #[.int .u8 x0, .string x1, .string x2, .int .u64 0, .int .u8 0, .string x3, .int .u64 x4, .bool x5, .bool x6, .bool x7] 54)).b 4 (v := .int .u64 y4) rfl
  have b5 := cellOf (hL.alloc (.cells #[.int .u8 x0, .string x1, .string x2, .int .u64 0, .int .u8 0, .string x3, .int .u64 x4, .bool x5, .bool x6, .bool x7] 54)).b 5 (v := .bool y5) rfl
  have b6 := cellOf (hL.alloc (.cells #[.int .u8 x0, .string x1, .string x2, .int .u64 0, .int .u8 0, .string x3, .int .u64 x4, .bool x5, .bool x6, .bool x7] 54)).b 6 (v := .bool y6) rfl
  have b7 := cellOf (hL.alloc (.cells #[.int .u8 x0, .string x1, .string x2, .int .u64 0, .int .u8 0, .string x3, .int .u64 x4, .bool x5, .bool x6, .bool x7] 54)).b 7 (v := .bool y7) rfl
  have HL : Hid (LS w w2 (mkP x0 x1 x2 x3 x4 x5 x6 x7) (mkP y0 y1 y2 y3 y4 y5 y6 y7)) := hL
  clear hL
  go_wp2_with fail
  refine (mk23 y0 y4 y1 y2 y3 y5 y6 y7 _).mono ?_
  rintro e w3 ⟨rfl, hb⟩
  have hI : IS w (w3.alloc (.cells #[.int .u8 y0, .string y1, .string y2, .int .u64 0, .int .u8 0, .string y3, .int .u64 y4, .bool y5, .bool y6, .bool y7] 54)) w2.heap.size w3.heap.size (mkI x0 x4 x1 x2 x3 x5 x6 x7) (mkI y0 y4 y1 y2 y3 y5 y6 y7) := IS.start HL.out.below (mkI x0 x4 x1 x2 x3 x5 x6 x7) (mkI y0 y4 y1 y2 y3 y5 y6 y7) hb
  have hne : w2.heap.size < w3.heap.size := by have := hb.size; simp at this; omega
  clear HL hb b0 b1 b2 b3 b4 b5 b6 b7
  have d0 := cellOf hI.a 0 (v := .int .u8 x0) rfl
  have d1 := cellOf hI.a 1 (v := .string x1) rfl
  have d2 := cellOf hI.a 2 (v := .string x2) rfl
  have d3 := cellOf hI.a 3 (v := .int .u64 0) rfl
  have d4 := cellOf hI.a 4 (v := .int .u8 0) rfl
  have d5 := cellOf hI.a 5 (v := .string x3) rfl
  have d6 := cellOf hI.a 6 (v := .int .u64 x4) rfl
  have d7 := cellOf hI.a 7 (v := .bool x5) rfl
  have d8 := cellOf hI.a 8 (v := .bool x6) rfl
  have d9 := cellOf hI.a 9 (v := .bool x7) rfl
  have HI : Hid (IS w (w3.alloc (.cells #[.int .u8 y0, .string y1, .string y2, .int .u64 0, .int .u8 0, .string y3, .int .u64 y4, .bool y5, .bool y6, .bool y7] 54)) w2.heap.size w3.heap.size (mkI x0 x4 x1 x2 x3 x5 x6 x7) (mkI y0 y4 y1 y2 y3 y5 y6 y7)) := hI
  clear hI
  go_wp2_with fail
  refine (zflipT cn sm C1 SA x0 x4 x1 x2 x3 x5 x6 x7 _ s1 s2 s3 (HE.out.1) (HE.out.2.1)).mono ?_
  rintro e w4 ⟨rfl, hb⟩
  have hI := HI.out.later hb
  clear hb
  clear HI d0 d1 d2 d3 d4 d5 d6 d7 d8 d9
  have d0 := cellOf hI.b 0 (v := .int .u8 y0) rfl
  have d1 := cellOf hI.b 1 (v := .string y1) rfl
  have d2 := cellOf hI.b 2 (v := .string y2) rfl
  have d3 := cellOf hI.b 3 (v := .int .u64 0) rfl
  have d4 := cellOf hI.b 4 (v := .int .u8 0) rfl
  have d5 := cellOf hI.b 5 (v := .string y3) rfl
  have d6 := cellOf hI.b 6 (v := .int .u64 y4) rfl
  have d7 := cellOf hI.b 7 (v := .bool y5) rfl
  have d8 := cellOf hI.b 8 (v := .bool y6) rfl
  have d9 := cellOf hI.b 9 (v := .bool y7) rfl
  have HI : Hid (IS w w4 w2.heap.size w3.heap.size (mkI x0 x4 x1 x2 x3 x5 x6 x7) (mkI y0 y4 y1 y2 y3 y5 y6 y7)) := hI
  clear hI
  go_wp2_with fail
  refine (zflipT C1 SA C2 S y0 y4 y1 y2 y3 y5 y6 y7 _ s4 s5 s6 (HE.out.2.2.1) (HE.out.2.2.2.1)).mono ?_
  rintro e w5 ⟨rfl, hb⟩
  have hI := HI.out.later hb
  clear hb
  clear HI d0 d1 d2 d3 d4 d5 d6 d7 d8 d9
  have d0 := cellOf hI.b 0 (v := .int .u8 y0) rfl
  have d1 := cellOf hI.b 1 (v := .string y1) rfl
  have d2 := cellOf hI.b 2 (v := .string y2) rfl
  have d3 := cellOf hI.b 3 (v := .int .u64 0) rfl
  have d4 := cellOf hI.b 4 (v := .int .u8 0) rfl
  have d5 := cellOf hI.b 5 (v := .string y3) rfl
  have d6 := cellOf hI.b 6 (v := .int .u64 y4) rfl
  have d7 := cellOf hI.b 7 (v := .bool y5) rfl
  have d8 := cellOf hI.b 8 (v := .bool y6) rfl
  have d9 := cellOf hI.b 9 (v := .bool y7) rfl
  have HI : Hid (IS w w5 w2.heap.size w3.heap.size (mkI x0 x4 x1 x2 x3 x5 x6 x7) (mkI y0 y4 y1 y2 y3 y5 y6 y7)) := hI
  clear hI
  go_wp2_with fail
  refine (zflipT cn sm C1 SB y0 y4 y1 y2 y3 y5 y6 y7 _ s4 s5 s6 (HE.out.1) (HE.out.2.2.2.2.1)).mono ?_
  rintro e w6 ⟨rfl, hb⟩
  have hI := HI.out.later hb
  clear hb
  clear HI d0 d1 d2 d3 d4 d5 d6 d7 d8 d9
  have d0 := cellOf hI.a 0 (v := .int .u8 x0) rfl
  have d1 := cellOf hI.a 1 (v := .string x1) rfl
  have d2 := cellOf hI.a 2 (v := .string x2) rfl
  have d3 := cellOf hI.a 3 (v := .int .u64 0) rfl
  have d4 := cellOf hI.a 4 (v := .int .u8 0) rfl
  have d5 := cellOf hI.a 5 (v := .string x3) rfl
  have d6 := cellOf hI.a 6 (v := .int .u64 x4) rfl
  have d7 := cellOf hI.a 7 (v := .bool x5) rfl
  have d8 := cellOf hI.a 8 (v := .bool x6) rfl
  have d9 := cellOf hI.a 9 (v := .bool x7) rfl
  have HI : Hid (IS w w6 w2.heap.size w3.heap.size (mkI x0 x4 x1 x2 x3 x5 x6 x7) (mkI y0 y4 y1 y2 y3 y5 y6 y7)) := hI
  clear hI
  go_wp2_with fail
  refine (zflipT C1 SB C2 S x0 x4 x1 x2 x3 x5 x6 x7 _ s1 s2 s3 (HE.out.2.2.1) (HE.out.2.2.2.2.2.1)).mono ?_
  rintro e w7 ⟨rfl, hb⟩
  have hI := HI.out.later hb
  clear hb
  clear HI d0 d1 d2 d3 d4 d5 d6 d7 d8 d9
  have d0 := cellOf hI.a 0 (v := .int .u8 x0) rfl
  have d1 := cellOf hI.a 1 (v := .string x1) rfl
  have d2 := cellOf hI.a 2 (v := .string x2) rfl
  have d3 := cellOf hI.a 3 (v := .int .u64 0) rfl
  have d4 := cellOf hI.a 4 (v := .int .u8 0) rfl
  have d5 := cellOf hI.a 5 (v := .string x3) rfl
  have d6 := cellOf hI.a 6 (v := .int .u64 x4) rfl
  have d7 := cellOf hI.a 7 (v := .bool x5) rfl
  have d8 := cellOf hI.a 8 (v := .bool x6) rfl
  have d9 := cellOf hI.a 9 (v := .bool x7) rfl
  have HI : Hid (IS w w7 w2.heap.size w3.heap.size (mkI x0 x4 x1 x2 x3 x5 x6 x7) (mkI y0 y4 y1 y2 y3 y5 y6 y7)) := hI
  clear hI
  go_wp2_with fail
  refine (zflipF C2 S C1 SB x0 x4 x1 x2 x3 x5 x6 x7 _ s1 s2 s3 (HE.out.2.2.2.2.2.2.1) (HE.out.2.2.2.2.2.2.2.1)).mono ?_
  rintro e w8 ⟨rfl, hb⟩
  have hI := HI.out.later hb
  clear hb
  clear HI d0 d1 d2 d3 d4 d5 d6 d7 d8 d9
  have d0 := cellOf hI.b 0 (v := .int .u8 y0) rfl
  have d1 := cellOf hI.b 1 (v := .string y1) rfl
  have d2 := cellOf hI.b 2 (v := .string y2) rfl
  have d3 := cellOf hI.b 3 (v := .int .u64 0) rfl
  have d4 := cellOf hI.b 4 (v := .int .u8 0) rfl
  have d5 := cellOf hI.b 5 (v := .string y3) rfl
  have d6 := cellOf hI.b 6 (v := .int .u64 y4) rfl
  have d7 := cellOf hI.b 7 (v := .bool y5) rfl
  have d8 := cellOf hI.b 8 (v := .bool y6) rfl
  have d9 := cellOf hI.b 9 (v := .bool y7) rfl
  have HI : Hid (IS w w8 w2.heap.size w3.heap.size (mkI x0 x4 x1 x2 x3 x5 x6 x7) (mkI y0 y4 y1 y2 y3 y5 y6 y7)) := hI
  clear hI
  go_wp2_with fail
  refine (zflipT cn sm C1 SB y0 y4 y1 y2 y3 y5 y6 y7 _ s4 s5 s6 (HE.out.1) (HE.out.2.2.2.2.1)).mono ?_
  rintro e w9 ⟨rfl, hb⟩
  have hI := HI.out.later hb
  clear hb
  clear HI d0 d1 d2 d3 d4 d5 d6 d7 d8 d9
  have d0 := cellOf hI.b 0 (v := .int .u8 y0) rfl
  have d1 := cellOf hI.b 1 (v := .string y1) rfl
  have d2 := cellOf hI.b 2 (v := .string y2) rfl
  have d3 := cellOf hI.b 3 (v := .int .u64 0) rfl
  have d4 := cellOf hI.b 4 (v := .int .u8 0) rfl
  have d5 := cellOf hI.b 5 (v := .string y3) rfl
  have d6 := cellOf hI.b 6 (v := .int .u64 y4) rfl
  have d7 := cellOf hI.b 7 (v := .bool y5) rfl
  have d8 := cellOf hI.b 8 (v := .bool y6) rfl
  have d9 := cellOf hI.b 9 (v := .bool y7) rfl
  have HI : Hid (IS w w9 w2.heap.size w3.heap.size (mkI x0 x4 x1 x2 x3 x5 x6 x7) (mkI y0 y4 y1 y2 y3 y5 y6 y7)) := hI
  clear hI
  go_wp2_with fail
  refine (zflipF C1 SB cn sm y0 y4 y1 y2 y3 y5 y6 y7 _ s4 s5 s6 (HE.out.2.2.2.2.2.2.2.2.1) (HE.out.2.2.2.2.2.2.2.2.2)).mono ?_
  rintro e w10 ⟨rfl, hb⟩
  have hI := HI.out.later hb
  clear hb
  clear HI d0 d1 d2 d3 d4 d5 d6 d7 d8 d9
  have HI : Hid (IS w w10 w2.heap.size w3.heap.size (mkI x0 x4 x1 x2 x3 x5 x6 x7) (mkI y0 y4 y1 y2 y3 y5 y6 y7)) := hI
  clear hI
  go_wp2
  go_ret
  exact ⟨rfl, HI.out.below⟩
end Go.Proofs.Qxb6604500a
