import Derived.Test.Qxb6604500aProg
import Derived.WalkKit
import Derived.ProofKit
import Derived.OpenShut
import Derived.ShutString
namespace Go.Proofs.Qxb6604500a
open Go.ChangeShapes Go.WideShapes Go.ChangeAt Go.RowKit
set_option linter.unusedVariables false

theorem Try.c49 : Try.prog.cellsOf 49 = 8 := by kernel_rfl
theorem Try.c5 : Try.prog.cellsOf 5 = 1 := by kernel_rfl
theorem Try.c9 : Try.prog.cellsOf 9 = 1 := by kernel_rfl
theorem Try.c33 : Try.prog.cellsOf 33 = 1 := by kernel_rfl
theorem Try.c4 : Try.prog.cellsOf 4 = 1 := by kernel_rfl

theorem array8 {c : Array Value} (h : c.size = 8) : ∃ a0 a1 a2 a3 a4 a5 a6 a7, c = #[a0, a1, a2, a3, a4, a5, a6, a7] := by
  rcases c with ⟨l⟩
  match l, h with
  | [a0, a1, a2, a3, a4, a5, a6, a7], _ => exact ⟨_, _, _, _, _, _, _, _, rfl⟩

set_option maxRecDepth 100000 in
set_option linter.unusedSimpArgs false in
/-- A parameter of type 49 by value, opened. -/
theorem open49 {H : Type} {enc : TypeId × Value → H} {w : World} {base : Nat} {sp : Nat → Bool} {held : Bool} {r : Reach} {b0 : Nat} {v : Value} {d : DataW H} {ps : List MemPlace}
    (hval : Value.okWide Try.prog w r b0 49 v) (hd : DataW.Trod enc Try.prog w base sp held 49 v d ps) :
    ∃ (x0 : Int) (x1 x2 x3 : ByteArray) (x4 : Int) (x5 x6 x7 : Bool), v = .agg #[.int .u8 x0, .string x1, .string x2, .string x3, .int .u64 x4, .bool x5, .bool x6, .bool x7] ∧
      d = .agg [.lit (.int .u8 x0), .lit (.string x1.data.toList), .lit (.string x2.data.toList), .lit (.string x3.data.toList), .lit (.int .u64 x4), .lit (.bool x5), .lit (.bool x6), .lit (.bool x7)] ∧ ps = [] ∧
      (Lit.int .u8 x0).wf = true ∧ x1.size ≤ maxLen ∧ x2.size ≤ maxLen ∧ x3.size ≤ maxLen ∧ (Lit.int .u64 x4).wf = true := by
  obtain ⟨cs, rfl, hsz⟩ := okWide_struct Try.underlying49 hval
  obtain ⟨c0, c1, c2, c3, c4, c5, c6, c7, rfl⟩ := array8 (hsz.trans Try.c49)
  obtain ⟨fuel, hf⟩ := hd
  obtain ⟨ys, m, _, hx, _, hl, hfs⟩ := Go.DataW.trod_struct Try.underlying49 hf
  match ys, hl with
  | [y0, y1, y2, y3, y4, y5, y6, y7], _ =>
  have h0 := hfs 0 _ rfl
  have h1 := hfs 1 _ rfl
  have h2 := hfs 2 _ rfl
  have h3 := hfs 3 _ rfl
  have h4 := hfs 4 _ rfl
  have h5 := hfs 5 _ rfl
  have h6 := hfs 6 _ rfl
  have h7 := hfs 7 _ rfl
  simp [Value.cells, Try.c49, Try.c5, Try.c9, Try.c33, Try.c4] at h0 h1 h2 h3 h4 h5 h6 h7
  obtain ⟨x0, e0, rfl, s0⟩ := Go.DataW.trod_int Try.underlying5 h0
  obtain ⟨x1, e1, rfl, s1⟩ := Go.DataW.trod_string Try.underlying9 h1
  obtain ⟨x2, e2, rfl, s2⟩ := Go.DataW.trod_string Try.underlying9 h2
  obtain ⟨x3, e3, rfl, s3⟩ := Go.DataW.trod_string Try.underlying9 h3
  obtain ⟨x4, e4, rfl, s4⟩ := Go.DataW.trod_int Try.underlying33 h4
  obtain ⟨x5, e5, rfl⟩ := Go.DataW.trod_bool Try.underlying4 h5
  obtain ⟨x6, e6, rfl⟩ := Go.DataW.trod_bool Try.underlying4 h6
  obtain ⟨x7, e7, rfl⟩ := Go.DataW.trod_bool Try.underlying4 h7
  simp at e0 e1 e2 e3 e4 e5 e6 e7
  subst e0 e1 e2 e3 e4 e5 e6 e7
  simp only [Prod.mk.injEq] at hx
  exact ⟨x0, x1, x2, x3, x4, x5, x6, x7, rfl, by rw [hx.1]; rfl, by rw [hx.2]; rfl, s0, s1, s2, s3, s4⟩

set_option maxRecDepth 100000 in
set_option linter.unusedSimpArgs false in
theorem shut49 {H : Type} {enc : TypeId × Value → H} (w : World) (base : Nat) (sp : Nat → Bool) (held : Bool) (x0 : Int) (x1 x2 x3 : ByteArray) (x4 : Int) (x5 x6 x7 : Bool)
    (s0 : (Lit.int .u8 x0).wf = true) (s1 : x1.size ≤ maxLen) (s2 : x2.size ≤ maxLen) (s3 : x3.size ≤ maxLen) (s4 : (Lit.int .u64 x4).wf = true) :
    DataW.Trod enc Try.prog w base sp held 49 (.agg #[.int .u8 x0, .string x1, .string x2, .string x3, .int .u64 x4, .bool x5, .bool x6, .bool x7])
      (.agg [.lit (.int .u8 x0), .lit (.string x1.data.toList), .lit (.string x2.data.toList), .lit (.string x3.data.toList), .lit (.int .u64 x4), .lit (.bool x5), .lit (.bool x6), .lit (.bool x7)]) [] := by
  refine ⟨2, ?_⟩
  simp [DataW.trod, Value.cells, Try.underlying49, Try.underlying5, Try.underlying9, Try.underlying33, Try.underlying4, Try.c49, Try.c5, Try.c9, Try.c33, Try.c4, s0, s1, s2, s3, s4]
end Go.Proofs.Qxb6604500a
