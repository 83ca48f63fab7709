import Derived.Test.Qxb6604500aStamp
import Derived.Laws.IdiomStrings
namespace Go.Proofs.Qxb6604500a
open Go.RowKit Go.Deep
set_option linter.unusedVariables false

/-- The ten cells of an item. -/
def mkI (sp ct : Int) (nm vl ky : ByteArray) (o r f : Bool) : List Value :=
  [.int .u8 sp, .string nm, .string vl, .int .u64 0, .int .u8 0, .string ky, .int .u64 ct, .bool o, .bool r, .bool f]

theorem new40 (w : World) :
    Calls Try.prog 40 #[] w fun e w' => e = .returned (.iface 114 (.pointer (some ⟨w.heap.size, 0, none⟩))) ∧ w' = w.alloc (.cells #[.int .u64 14695981039346656037] 113) := by
  go_enter Try.func40, Try.ntmps40
  go_wp2
  go_ret
  exact ⟨rfl, rfl⟩

theorem meth_write (a : Addr) (w : World) : (method 259 114 (.pointer (some a)) "Write").run Try.prog w = .ok (103, .pointer (some a)) w := by kernel_rfl
theorem nil_write (a : Addr) (w : World) : (nilAhead 259 114 (.pointer (some a)) "Write").run Try.prog w = .ok (some false) w := by kernel_rfl
theorem meth_sum (a : Addr) (w : World) : (method 259 114 (.pointer (some a)) "Sum64").run Try.prog w = .ok (102, .pointer (some a)) w := by kernel_rfl

/-- One byte more in the hash. -/
def fstep (h b : Int) : Int := IntKind.u64.wrap (bits .xor .u64 h (IntKind.u64.wrap b) * 1099511628211)
/-- The first k bytes more. -/
def fnvTo (h : Int) (B : Nat → Int) : Nat → Int
  | 0 => h
  | k + 1 => fstep (fnvTo h B k) (B k)

/-- w' is w with the one cell of block b turned. -/
structure WPut (w w' : World) (b : Nat) (v : Value) (t : TypeId) : Prop where
  os : w'.os = w.os
  tape : w'.tape = w.tape
  output : w'.output = w.output
  size : w'.heap.size = w.heap.size
  cell : w'.heap[b]? = some (.cells #[v] t (0, 0))
  other : ∀ k, k ≠ b → w'.heap[k]? = w.heap[k]?

theorem WPut.of {w : World} {b : Nat} {u v : Value} {t : TypeId} (h : w.heap[b]? = some (.cells #[u] t (0, 0))) : WPut w (w.setCell ⟨b, 0, none⟩ v) b v t :=
  ⟨rfl, rfl, rfl, by simp [World.setCell], by simpa using heap_setCell_same w b 0 #[u] t v h, fun k hk => heap_setCell_other w ⟨b, 0, none⟩ k v hk⟩

set_option maxHeartbeats 800000 in
theorem write103 (b n c : Nat) (a : Option Addr) (h : Int) (B : Nat → Int) (w : World) (hn : n ≤ 4194304) (ch : w.heap[b]? = some (.cells #[.int .u64 h] 113 (0, 0))) (hb : RowB w a n B) :
    Calls Try.prog 103 #[.pointer (some ⟨b, 0, none⟩), .slice a n c] w fun e w' => e = .returned (.tuple #[.int .i64 n, .nilIface]) ∧ WPut w w' b (.int .u64 (fnvTo h B n)) 113 := by
  have g1 : w.cell? ⟨b, 0, none⟩ = some (.int .u64 h) := by rw [cell_of_row w b 0 _ 113 (0, 0) ch]; rfl
  have g2 : w.frozen? ⟨b, 0, none⟩ = false := frozen_of_row w b 0 _ 113 ch
  have HC : Hid (w.heap[b]? = some (.cells #[.int .u64 h] 113 (0, 0))) := ch
  have HB : Hid (RowB w a n B) := hb
  clear ch hb
  go_enter Try.func103, Try.ntmps103
  go_wp2
  go_loopg [6, 14] n (fun g s i wr => ∃ k : Nat, w = wr ∧ i = .int .i64 k ∧ s = .int .u64 (fnvTo h B k) ∧ k ≤ n ∧ g = n - k)
  case atStart => exact ⟨0, rfl, rfl, rfl, by omega, rfl⟩
  case round =>
    obtain ⟨k, rfl, rfl, rfl, hk, rfl⟩ := hrel
    by_cases hlt : k < n
    · obtain ⟨b', o', rfl, hc⟩ := HB.out k hlt
      go_wp2
      go_roundg (n - (k + 1))
      case measure => omega
      case rel => exact ⟨k + 1, rfl, by go_num, rfl, by omega, rfl⟩
    · obtain rfl : n = k := by omega
      go_wp2
      go_ret2
      exact ⟨rfl, WPut.of HC.out⟩

theorem sum102 (b : Nat) (h : Int) (w : World) (ch : w.cell? ⟨b, 0, none⟩ = some (.int .u64 h)) :
    Calls Try.prog 102 #[.pointer (some ⟨b, 0, none⟩)] w fun e w' => e = .returned (.int .u64 h) ∧ w' = w := by
  go_enter Try.func102, Try.ntmps102
  go_wp2
  go_ret
  exact ⟨rfl, rfl⟩

/-- Where flip stands: the item in block w0's end, the hash behind it. -/
structure FS (w0 wr : World) (sp ct : Int) (nm vl ky : ByteArray) (o r f : Bool) (h : Int) : Prop where
  below : Below w0.heap.size w0 wr
  it : wr.heap[w0.heap.size]? = some (.cells (mkI sp ct nm vl ky o r f).toArray 54 (0, 0))
  hs : wr.heap[w0.heap.size + 1]? = some (.cells #[.int .u64 h] 113 (0, 0))

theorem cellOf {w : World} {b : Nat} {c : Array Value} {t : TypeId} (h : w.heap[b]? = some (.cells c t (0, 0))) (i : Nat) {v : Value} (hv : c[i]? = some v) : w.cell? ⟨b, i, none⟩ = some v := by
  rw [cell_of_row w b i c t (0, 0) h]; exact hv

theorem lt_of {w : World} {b : Nat} {x : Obj} (h : w.heap[b]? = some x) : b < w.heap.size := (Array.getElem?_eq_some_iff.1 h).1

theorem FS.alloc {w0 wr : World} {sp ct : Int} {nm vl ky : ByteArray} {o r f : Bool} {h : Int} (hF : FS w0 wr sp ct nm vl ky o r f h) (x : Obj) : FS w0 (wr.alloc x) sp ct nm vl ky o r f h :=
  ⟨hF.below.alloc hF.below.size x, (Below.heap_alloc _ _ _ (lt_of hF.it)).trans hF.it, (Below.heap_alloc _ _ _ (lt_of hF.hs)).trans hF.hs⟩
theorem FS.drew {w0 wr : World} {sp ct : Int} {nm vl ky : ByteArray} {o r f : Bool} {h : Int} (hF : FS w0 wr sp ct nm vl ky o r f h) : FS w0 wr.drew sp ct nm vl ky o r f h :=
  ⟨hF.below.drew, hF.it, hF.hs⟩

theorem FS.put {w0 wr w' : World} {sp ct : Int} {nm vl ky : ByteArray} {o r f : Bool} {h h' : Int} (hF : FS w0 wr sp ct nm vl ky o r f h) (hp : WPut wr w' (w0.heap.size + 1) (.int .u64 h') 113) : FS w0 w' sp ct nm vl ky o r f h' :=
  ⟨hF.below.trans ⟨hp.os, hp.tape, hp.output, by rw [hp.size]; exact Nat.le_refl _, fun k hk => hp.other k (by omega)⟩, (hp.other _ (by omega)).trans hF.it, hp.cell⟩

theorem RowB.one (w : World) (v : Int) (t : TypeId) : RowB (w.alloc (.cells #[.int .u8 v] t)) (some ⟨w.heap.size, 0, none⟩) 1 (fun _ => v) := fun i hi => by
  obtain rfl : i = 0 := by omega
  exact ⟨w.heap.size, 0, rfl, by rw [cell_of_row (w.alloc (.cells #[.int .u8 v] t)) w.heap.size (0 + 0) _ t (0, 0) (heap_alloc_new w _)]; rfl⟩

/-- The bytes of a string. -/
def strB (s : ByteArray) (i : Nat) : Int := ((s.data.toList.getD i 0).toNat : Int)

theorem bytesRow_at (s : ByteArray) (cap i : Nat) (hi : i < s.size) : (bytesRow s cap)[i]? = some (.int .u8 (strB s i)) := by
  have h : i < s.data.size := hi
  have hm : i < (s.data.map fun b => Value.int .u8 b.toNat).size := by simpa using h
  unfold bytesRow
  rw [Array.getElem?_append_left hm]
  have hg : s.data[i]? = some s.data[i] := Array.getElem?_eq_getElem h
  rw [Array.getElem?_map, hg]
  simp [strB, List.getD, hg]

theorem RowB.str (w : World) (s : ByteArray) (cap : Nat) (t : TypeId) (fr : Nat × Nat) : RowB (w.alloc (.cells (bytesRow s cap) t fr)).drew (some ⟨w.heap.size, 0, none⟩) s.size (strB s) := fun i hi =>
  ⟨w.heap.size, 0, rfl, by
    show (w.alloc (.cells (bytesRow s cap) t fr)).cell? _ = _
    rw [Nat.zero_add, cell_of_row (w.alloc (.cells (bytesRow s cap) t fr)) w.heap.size i _ t fr (heap_alloc_new w _)]
    exact bytesRow_at s cap i hi⟩

theorem cell_later' {w wx : World} {a : Addr} {v : Value} (hb : Below w.heap.size w wx) (h : w.cell? a = some v) : wx.cell? a = some v := by
  rw [hb.cell (World.block_lt_of_cell? w a h)]; exact h

theorem cell_put {w w' : World} {b : Nat} {v : Value} {t : TypeId} {c i : Nat} {u : Value} (hp : WPut w w' b v t) (hne : c ≠ b) (h : w.cell? ⟨c, i, none⟩ = some u) : w'.cell? ⟨c, i, none⟩ = some u := by
  rw [World.cell?_of_block (w := w) (a := ⟨c, i, none⟩) (hp.other c hne)]; exact h

theorem FS.later {w0 wr w' : World} {sp ct : Int} {nm vl ky : ByteArray} {o r f : Bool} {h : Int} (hF : FS w0 wr sp ct nm vl ky o r f h) (hb : Below wr.heap.size wr w') : FS w0 w' sp ct nm vl ky o r f h :=
  ⟨hF.below.trans (hb.mono hF.below.size), (hb.block _ (lt_of hF.it)).trans hF.it, (hb.block _ (lt_of hF.hs)).trans hF.hs⟩

theorem FS.start (w : World) (sp ct : Int) (nm vl ky : ByteArray) (o r f : Bool) (h : Int) : FS w ((w.alloc (.cells (mkI sp ct nm vl ky o r f).toArray 54)).alloc (.cells #[.int .u64 h] 113)) sp ct nm vl ky o r f h := by
  refine ⟨((Below.refl _ _).alloc (Nat.le_refl _) _).alloc (by simp) _, ?_, ?_⟩
  · rw [Below.heap_alloc _ _ _ (by simp)]; exact heap_alloc_new _ _
  · have := heap_alloc_new (w.alloc (.cells (mkI sp ct nm vl ky o r f).toArray 54)) (.cells #[.int .u64 h] 113)
    simpa using this

/-- THE HASH OF AN ITEM, as flip reckons it. -/
def hashF (sp ct : Int) (nm vl ky : ByteArray) (o r f : Bool) : Int :=
  fnvTo (fnvTo (fnvTo (fnvTo (fnvTo 14695981039346656037 (fun _ => sp) 1) (strB nm) nm.size) (fun _ => 0) 1) (strB vl) vl.size) (stampB ky ct o r f) (18 + ky.size)

theorem hash_all {sp ct : Int} {nm vl ky : ByteArray} {o r f : Bool} {h1 h2 h3 h4 h5 : Int} (e1 : fnvTo 14695981039346656037 (fun _ => sp) 1 = h1) (e2 : fnvTo h1 (strB nm) nm.size = h2) (e3 : fnvTo h2 (fun _ => 0) 1 = h3)
    (e4 : fnvTo h3 (strB vl) vl.size = h4) (e5 : fnvTo h4 (stampB ky ct o r f) (18 + ky.size) = h5) : hashF sp ct nm vl ky o r f = h5 := by
  rw [hashF, e1, e2, e3, e4, e5]

theorem flip_end {w w8 : World} {db : Nat} (x y : Value) (u v : Value) (d0 : w8.cell? ⟨db, 0, none⟩ = some u) (d1 : w8.cell? ⟨db, 1, none⟩ = some v) {x' : Value} (hx : x = x') (hb : Below db w w8) :
    ((w8.setCell ⟨db, 1, none⟩ x).setCell ⟨db, 0, none⟩ y).drew.cell? ⟨db, 0, none⟩ = some y ∧ ((w8.setCell ⟨db, 1, none⟩ x).setCell ⟨db, 0, none⟩ y).drew.cell? ⟨db, 1, none⟩ = some x' ∧ Below db w ((w8.setCell ⟨db, 1, none⟩ x).setCell ⟨db, 0, none⟩ y).drew := by
  subst hx
  have n1 : (⟨db, 1, none⟩ : Addr) ≠ ⟨db, 0, none⟩ := by simp
  have n0 : (⟨db, 0, none⟩ : Addr) ≠ ⟨db, 1, none⟩ := by simp
  have f0 : (w8.setCell ⟨db, 1, none⟩ x).cell? ⟨db, 0, none⟩ = some u := by rw [World.cell?_setCell_other _ _ _ _ n1]; exact d0
  refine ⟨World.cell?_setCell_same _ _ _ f0, ?_, ((hb.setCell (p := ⟨db, 1, none⟩) (Nat.le_refl _) x).setCell (p := ⟨db, 0, none⟩) (Nat.le_refl _) y).drew⟩
  show ((w8.setCell ⟨db, 1, none⟩ x).setCell ⟨db, 0, none⟩ y).cell? _ = _
  rw [World.cell?_setCell_other _ _ _ _ n0]
  exact World.cell?_setCell_same _ _ _ d1

set_option maxRecDepth 100000 in
set_option maxHeartbeats 1600000 in
theorem flip32 (db : Nat) (sp ct : Int) (nm vl ky : ByteArray) (o r f : Bool) (b : Bool) (w : World) (z1 : nm.size ≤ 1048576) (z2 : vl.size ≤ 1048576) (z3 : ky.size ≤ 1048576) (cn sm : Int) (hdb : db < w.heap.size)
    (cd0 : w.cell? ⟨db, 0, none⟩ = some (.int .i64 cn)) (cd1 : w.cell? ⟨db, 1, none⟩ = some (.int .u64 sm)) (fd0 : w.frozen? ⟨db, 0, none⟩ = false) (fd1 : w.frozen? ⟨db, 1, none⟩ = false) :
    Calls Try.prog 32 #[.pointer (some ⟨db, 0, none⟩), .agg (mkI sp ct nm vl ky o r f).toArray, .bool b] w fun e w' => e = .returned (.tuple #[]) ∧
      w'.cell? ⟨db, 0, none⟩ = some (.int .i64 (if b then wrap64 (cn + 1) else wrap64 (cn - 1))) ∧ w'.cell? ⟨db, 1, none⟩ = some (.int .u64 (bits .xor .u64 sm (hashF sp ct nm vl ky o r f))) ∧ Below db w w' := by
  go_enter Try.func32, Try.ntmps32
  go_wp2_with fail
  refine (new40 _).mono ?_
  rintro e w1 ⟨rfl, rfl⟩
  have hF := FS.start w sp ct nm vl ky o r f 14695981039346656037
  generalize (w.alloc (.cells (mkI sp ct nm vl ky o r f).toArray 54)).alloc (.cells #[.int .u64 14695981039346656037] 113) = w2 at hF ⊢
  have i0 := cellOf hF.it 0 (v := .int .u8 sp) rfl
  have HF : Hid (FS w w2 sp ct nm vl ky o r f 14695981039346656037) := hF
  clear hF
  have mw := meth_write
  have ms := meth_sum
  have mn := nil_write
  go_wp2_with fail
  refine (write103 (w.heap.size + 1) 1 1 _ 14695981039346656037 (fun _ => sp) _ (by omega) (HF.out.alloc _).hs (RowB.one _ _ _)).mono ?_
  rintro e w3 ⟨rfl, hp⟩
  have hF := (HF.out.alloc (.cells #[.int .u8 sp] 5)).put hp
  clear hp HF i0
  obtain ⟨h1, hh1⟩ : ∃ h1, fnvTo 14695981039346656037 (fun _ => sp) 1 = h1 := ⟨_, rfl⟩
  rw [hh1] at hF
  have H1 : Hid (fnvTo 14695981039346656037 (fun _ => sp) 1 = h1) := hh1
  have i1 := cellOf hF.it 1 (v := .string nm) rfl
  have HF : Hid (FS w w3 sp ct nm vl ky o r f h1) := hF
  clear hF hh1
  have hcv := run_bytes_of_string (P := Try.prog) w3 9 103 5 nm Try.underlying9 Try.underlying103 Try.underlying5
  go_wp2_with fail
  clear hcv i1
  refine (write103 (w.heap.size + 1) nm.size _ _ h1 (strB nm) _ (by omega) (HF.out.alloc _).drew.hs (RowB.str w3 nm _ _ _)).mono ?_
  rintro e w4 ⟨rfl, hp⟩
  have hF := (HF.out.alloc _).drew.put hp
  clear hp HF
  obtain ⟨h2, hh2⟩ : ∃ h2, fnvTo h1 (strB nm) nm.size = h2 := ⟨_, rfl⟩
  rw [hh2] at hF
  have H2 : Hid (fnvTo h1 (strB nm) nm.size = h2) := hh2
  have HF : Hid (FS w w4 sp ct nm vl ky o r f h2) := hF
  clear hF hh2
  go_wp2_with fail
  refine (write103 (w.heap.size + 1) 1 1 _ h2 (fun _ => 0) _ (by omega) (HF.out.alloc _).hs (RowB.one _ _ _)).mono ?_
  rintro e w5 ⟨rfl, hp⟩
  have hF := (HF.out.alloc (.cells #[.int .u8 0] 5)).put hp
  clear hp HF
  obtain ⟨h3, hh3⟩ : ∃ h3, fnvTo h2 (fun _ => 0) 1 = h3 := ⟨_, rfl⟩
  rw [hh3] at hF
  have H3 : Hid (fnvTo h2 (fun _ => 0) 1 = h3) := hh3
  have i2 := cellOf hF.it 2 (v := .string vl) rfl
  have HF : Hid (FS w w5 sp ct nm vl ky o r f h3) := hF
  clear hF hh3
  have hcv := run_bytes_of_string (P := Try.prog) w5 9 103 5 vl Try.underlying9 Try.underlying103 Try.underlying5
  go_wp2_with fail
  clear hcv i2
  refine (write103 (w.heap.size + 1) vl.size _ _ h3 (strB vl) _ (by omega) (HF.out.alloc _).drew.hs (RowB.str w5 vl _ _ _)).mono ?_
  rintro e w6 ⟨rfl, hp⟩
  have hF := (HF.out.alloc _).drew.put hp
  clear hp HF
  obtain ⟨h4, hh4⟩ : ∃ h4, fnvTo h3 (strB vl) vl.size = h4 := ⟨_, rfl⟩
  rw [hh4] at hF
  have H4 : Hid (fnvTo h3 (strB vl) vl.size = h4) := hh4
  have j3 := cellOf hF.it 3 (v := .int .u64 0) rfl
  have j4 := cellOf hF.it 4 (v := .int .u8 0) rfl
  have j5 := cellOf hF.it 5 (v := .string ky) rfl
  have j6 := cellOf hF.it 6 (v := .int .u64 ct) rfl
  have j7 := cellOf hF.it 7 (v := .bool o) rfl
  have j8 := cellOf hF.it 8 (v := .bool r) rfl
  have j9 := cellOf hF.it 9 (v := .bool f) rfl
  have HF : Hid (FS w w6 sp ct nm vl ky o r f h4) := hF
  clear hF hh4
  go_wp2_with fail
  go_region_held3 (fun w' => w'.cell? ⟨w.heap.size, 3, none⟩ = some (.int .u64 0) ∧ w'.cell? ⟨w.heap.size, 4, none⟩ = some (.int .u8 0) ∧ w'.cell? ⟨w.heap.size, 5, none⟩ = some (.string ky) ∧ w'.cell? ⟨w.heap.size, 6, none⟩ = some (.int .u64 ct) ∧ w'.cell? ⟨w.heap.size, 7, none⟩ = some (.bool o) ∧ w'.cell? ⟨w.heap.size, 8, none⟩ = some (.bool r) ∧ w'.cell? ⟨w.heap.size, 9, none⟩ = some (.bool f))
    ((go_split_ands; refine ⟨?_, ?_, ?_, ?_, ?_, ?_, ?_⟩ <;> first | assumption | (apply cell_later' (by assumption); assumption) | (apply cell_put (by assumption) (by omega); assumption)))
    ((first | (go_at_call 41; refine (app41L ky ct o r f _ (by omega)).mono ?_; rintro e w7 ⟨a7, c7, rfl, hrow7, hb7⟩) | (go_at_call 103; refine (write103 (w.heap.size + 1) (18 + ky.size) c7 a7 h4 (stampB ky ct o r f) _ (by omega) (HF.out.drew.later hb7).hs hrow7).mono ?_; rintro e w8 ⟨rfl, hp8⟩)))
  all_goals
    have hF := (HF.out.drew.later hb7).put hp8
    clear hp8 hb7 hrow7 HF j3 j4 j5 j6 j7 j8 j9
    obtain ⟨h5, hh5⟩ : ∃ h5, fnvTo h4 (stampB ky ct o r f) (18 + ky.size) = h5 := ⟨_, rfl⟩
    rw [hh5] at hF
    have H5 : Hid (fnvTo h4 (stampB ky ct o r f) (18 + ky.size) = h5) := hh5
    have k0 := cellOf hF.hs 0 (v := .int .u64 h5) rfl
    have d0 := (hF.below.cell (p := ⟨db, 0, none⟩) hdb).trans cd0
    have d1 := (hF.below.cell (p := ⟨db, 1, none⟩) hdb).trans cd1
    have e0 := (hF.below.frozen (p := ⟨db, 0, none⟩) hdb).trans fd0
    have e1 := (hF.below.frozen (p := ⟨db, 1, none⟩) hdb).trans fd1
    have HF : Hid (FS w w8 sp ct nm vl ky o r f h5) := hF
    clear hF hh5
    go_wp2_with fail
    go_region_with (go_at_call 102; refine (sum102 (w.heap.size + 1) h5 _ (by simpa using k0)).mono ?_; rintro e w9 ⟨rfl, rfl⟩)
    all_goals
      cases b
      · go_wp2
        go_end0
        exact ⟨rfl, flip_end _ _ _ _ d0 d1 (by simp [hash_all H1.out H2.out H3.out H4.out H5.out]) (HF.out.below.mono (by omega))⟩
      · go_wp2
        go_end0
        exact ⟨rfl, flip_end _ _ _ _ d0 d1 (by simp [hash_all H1.out H2.out H3.out H4.out H5.out]) (HF.out.below.mono (by omega))⟩
end Go.Proofs.Qxb6604500a
