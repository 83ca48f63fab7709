import Derived.Test.Qxb6604360aBuildE
/- newestLike (32), classOf (29), ZZclassOf (17), ZZclassAt (20): the search along a chain finds the newest class with that latest. -/
namespace Go.Proofs.Qxb6604360a
open Go.RowKit Go.Deep
set_option linter.unusedVariables false

variable {R N Bf : Nat → Int} {nr k : Nat} {V : Nat → Nat → Int} {L : Nat → Nat} {bare : Int} {X : Nat → Int} {l : Nat}

/-- r is the newest class whose latest is X; none: there is none. -/
def Found (V : Nat → Nat → Int) (L : Nat → Nat) (k : Nat) (X : Nat → Int) (l : Nat) (r : Option Nat) : Prop :=
  (∀ c, r = some c → c < k ∧ Same (V c) (L c) X l ∧ ∀ c', c < c' → c' < k → ¬ Same (V c') (L c') X l) ∧ (r = none → ∀ c, c < k → ¬ Same (V c) (L c) X l)

/-- Where the search stands: v: 1 + the class that is looked at; all from bnd on have been ruled out. -/
structure Inv (R : Nat → Int) (nr : Nat) (V : Nat → Nat → Int) (L : Nat → Nat) (k : Nat) (X : Nat → Int) (l v bnd : Nat) : Prop where
  le : v ≤ bnd
  lek : bnd ≤ k
  up : ∀ c, c < bnd → Same (V c) (L c) X l → c + 1 ≤ v
  out : ∀ c, bnd ≤ c → c < k → ¬ Same (V c) (L c) X l
  bare : l = 0 → v = bareTo L bnd
  chain : 0 < l → ∃ p, p < nr ∧ R p = X 0 ∧ v = lastTo R V L bnd p

theorem inv_bare (hl : l = 0) : Inv R nr V L k X l (bareTo L k) k :=
  ⟨bareTo_le _ _, Nat.le_refl _, fun c hc hs => (bareTo_spec L k).2 c hc (by rw [hs.1, hl]), fun c h1 h2 => absurd h2 (by omega), fun _ => rfl, fun h => absurd hl (by omega)⟩

theorem up_last {p bnd : Nat} (hl : 0 < l) (hp : R p = X 0) : ∀ c, c < bnd → Same (V c) (L c) X l → c + 1 ≤ lastTo R V L bnd p := fun c hc hs =>
  (lastTo_spec R V L p bnd).2 c hc (by rw [hs.1]; exact hl) (by rw [hs.2 0 (by rw [hs.1]; exact hl), hp])

theorem inv_last {p : Nat} (hl : 0 < l) (hpn : p < nr) (hp : R p = X 0) : Inv R nr V L k X l (lastTo R V L k p) k :=
  ⟨lastTo_le _ _ _ _ _, Nat.le_refl _, up_last hl hp, fun c h1 h2 => absurd h2 (by omega), fun h => absurd hl (by omega), fun _ => ⟨p, hpn, hp, rfl⟩⟩

theorem Inv.found {i bnd : Nat} (h : Inv R nr V L k X l (i + 1) bnd) (hs : Same (V i) (L i) X l) : Found V L k X l (some i) := by
  have h1 := h.le
  have h2 := h.lek
  refine ⟨fun c hc => ?_, fun h => by cases h⟩
  obtain rfl : i = c := by simpa using hc
  refine ⟨by omega, hs, fun c' hlt hk hs' => ?_⟩
  by_cases e : c' < bnd
  · have := h.up c' e hs'; omega
  · exact h.out c' (by omega) hk hs'

theorem Inv.none {bnd : Nat} (h : Inv R nr V L k X l 0 bnd) : Found V L k X l none := by
  refine ⟨fun c hc => (by cases hc), fun _ c hk hs => ?_⟩
  by_cases e : c < bnd
  · have := h.up c e hs; omega
  · exact h.out c (by omega) hk hs

theorem Inv.step {i bnd : Nat} (E : Elem R nr V L k Bf N bare) (h : Inv R nr V L k X l (i + 1) bnd) (hs : ¬ Same (V i) (L i) X l) : ∃ v, Bf i = ((v : Nat) : Int) ∧ Inv R nr V L k X l v i := by
  have h1 := h.le
  have h2 := h.lek
  by_cases hl : l = 0
  · have h0 := ((bareTo_spec L bnd).1 i (h.bare hl).symm).2
    exact absurd ⟨by omega, fun j hj => by omega⟩ hs
  · obtain ⟨p, hpn, hp, hv⟩ := h.chain (by omega)
    obtain ⟨hib, hL, hV⟩ := (lastTo_spec R V L p bnd).1 i hv.symm
    refine ⟨lastTo R V L i p, E.bef i (by omega) hL p hpn hV.symm, lastTo_le _ _ _ _ _, by omega, up_last (by omega) hp, fun c hc hk hsc => ?_, fun h => absurd h hl, fun _ => ⟨p, hpn, hp, rfl⟩⟩
    by_cases e : c = i
    · subst e; exact hs hsc
    · by_cases e2 : c < bnd
      · have := h.up c e2 hsc; omega
      · exact h.out c (by omega) hk hsc

theorem like_bare (eb : Nat) (a : Option Addr) (c : Nat) (w : World) :
    Calls Try.prog 32 #[.pointer (some ⟨eb, 0, none⟩), .slice a 0 c] w fun e w' => e = .returned (.pointer (some ⟨eb, 7, none⟩)) ∧ w' = w := by
  go_enter Try.func32, Try.ntmps32
  go_wp2
  go_ret
  exact ⟨rfl, rfl⟩

set_option maxHeartbeats 800000 in
theorem like_last (eb nb nr l : Nat) (a ar : Option Addr) (c cr p : Nat) (R X : Nat → Int) (w : World) (hnr : nr ≤ 65536) (hl : 0 < l) (hl' : l ≤ 65536)
    (c3 : w.cell? ⟨eb, 3, none⟩ = some (.slice ar nr cr)) (rr : Row .u32 w ar nr R) (c6 : w.cell? ⟨eb, 6, none⟩ = some (.slice (some ⟨nb, 0, none⟩) nr nr)) (rx : Row .u32 w a l X) (ha : Asc R nr) (hp : p < nr) (hx : R p = X 0) :
    Calls Try.prog 32 #[.pointer (some ⟨eb, 0, none⟩), .slice a l c] w fun e w' => e = .returned (.pointer (some ⟨nb, p, none⟩)) ∧ ∃ q, w' = w.drewN q := by
  obtain ⟨b, o, rfl, hb, hc⟩ := rx 0 hl
  have RR : Hid (Row .u32 w ar nr R) := rr
  have HA : Hid (Asc R nr) := ha
  have HX : Hid (R p = X 0) := hx
  clear rr ha hx rx
  have el : ((l : Int) == 0) = false := beq_eq_false_iff_ne.2 (by omega)
  have q1 : (0 : Int) < (l : Int) := by omega
  have q2 : (p : Int) < (nr : Int) := by omega
  have q3 : (0 : Int) ≤ (p : Int) := by omega
  have hc0 : w.cell? ⟨b, o, none⟩ = some (.int .u32 (X 0)) := hc
  clear hc
  go_enter Try.func32, Try.ntmps32
  go_wp2
  go_quiet ((go_at_call 35; exact Calls.quiet_of_same (bins35 ar nr cr R (X 0) p _ hnr (RR.out.drewN _) HA.out hp HX.out)))
  go_wp2
  go_ret
  exact ⟨rfl, _, rfl⟩
theorem equal_t {a0 a1 : Option Addr} {l c0 l' c1 : Nat} {V V' : Nat → Int} (w : World) (hl : l ≤ 65536) (hl' : l' ≤ 65536) (r0 : Row .u32 w a0 l V) (r1 : Row .u32 w a1 l' V') (h : Same V l V' l') :
    Calls Try.prog 33 #[.slice a0 l c0, .slice a1 l' c1] w fun e w' => e = .returned (.bool true) ∧ ∃ q, w' = w.drewN q :=
  (equal33 a0 a1 l c0 l' c1 V V' w hl hl' r0 r1).mono fun e w' ⟨r, he, hw, hr⟩ => ⟨by rw [he, hr.2 h], hw⟩
theorem equal_f {a0 a1 : Option Addr} {l c0 l' c1 : Nat} {V V' : Nat → Int} (w : World) (hl : l ≤ 65536) (hl' : l' ≤ 65536) (r0 : Row .u32 w a0 l V) (r1 : Row .u32 w a1 l' V') (h : ¬ Same V l V' l') :
    Calls Try.prog 33 #[.slice a0 l c0, .slice a1 l' c1] w fun e w' => e = .returned (.bool false) ∧ ∃ q, w' = w.drewN q :=
  (equal33 a0 a1 l c0 l' c1 V V' w hl hl' r0 r1).mono fun e w' ⟨r, he, hw, hr⟩ => ⟨by rw [he]; cases r; rfl; exact absurd (hr.1 rfl) h, hw⟩

/-- newestLike (32): it leads to where the search begins. -/
theorem like32 (eb cb nr k l : Nat) (a : Option Addr) (c : Nat) (R N Bf X : Nat → Int) (L : Nat → Nat) (V : Nat → Nat → Int) (bare : Int) (w : World) (hnr : nr ≤ 65536) (hl' : l ≤ 65536)
    (hE : ElemAt w eb cb nr k R N Bf L V bare) (E : Elem R nr V L k Bf N bare) (rx : Row .u32 w a l X) (hx : Lies R nr X l) :
    Calls Try.prog 32 #[.pointer (some ⟨eb, 0, none⟩), .slice a l c] w fun e w' => ∃ b o, ∃ v : Nat, e = .returned (.pointer (some ⟨b, o, none⟩)) ∧ w.cell? ⟨b, o, none⟩ = some (.int .u32 (v : Int)) ∧ Hid (Inv R nr V L k X l v k) ∧ ∃ q, w' = w.drewN q := by
  by_cases hl : l = 0
  · subst hl
    exact (like_bare eb a c w).mono fun e w' ⟨he, hw⟩ => ⟨eb, 7, bareTo L k, he, by rw [← E.bar]; exact hE.bare, inv_bare rfl, 0, hw⟩
  · obtain ⟨p, hpn, hp⟩ := hx 0 (by omega)
    obtain ⟨ar, cr, c3, rr⟩ := hE.rem
    obtain ⟨nb, c6, hn⟩ := hE.new
    exact (like_last eb nb nr l a ar c cr p R X w hnr (by omega) hl' c3 rr c6 rx E.asc hpn hp).mono fun e w' ⟨he, hw⟩ => ⟨nb, p, lastTo R V L k p, he, by rw [← E.new p hpn]; exact hn p hpn, inv_last (by omega) hpn hp, hw⟩

theorem ElemAt.drewN {w : World} {eb cb nr k : Nat} {R N Bf : Nat → Int} {L : Nat → Nat} {V : Nat → Nat → Int} {bare : Int} (h : ElemAt w eb cb nr k R N Bf L V bare) (q : Nat) : ElemAt (w.drewN q) eb cb nr k R N Bf L V bare :=
  ⟨h.rem, h.cls, h.new, h.bare, h.row⟩

set_option maxRecDepth 100000 in
set_option maxHeartbeats 800000 in
theorem class29 (eb cb nr k l : Nat) (a : Option Addr) (c : Nat) (R N Bf X : Nat → Int) (L : Nat → Nat) (V : Nat → Nat → Int) (bare : Int) (w : World) (hnr : nr ≤ 65536) (hk : k ≤ 65536) (hl' : l ≤ 65536) (hL : ∀ j, j < k → L j ≤ 65536)
    (hE : ElemAt w eb cb nr k R N Bf L V bare) (E : Elem R nr V L k Bf N bare) (rx : Row .u32 w a l X) (hx : Lies R nr X l) :
    Calls Try.prog 29 #[.pointer (some ⟨eb, 0, none⟩), .slice a l c] w fun e w' => ∃ r : Option Nat, e = .returned (.pointer (r.map fun c => ⟨cb, c * 3, none⟩)) ∧ Found V L k X l r ∧ ∃ q, w' = w.drewN q := by
  have HE : Hid (ElemAt w eb cb nr k R N Bf L V bare) := hE
  have HEL : Hid (Elem R nr V L k Bf N bare) := E
  have RX : Hid (Row .u32 w a l X) := rx
  have HX : Hid (Lies R nr X l) := hx
  have HL : Hid (∀ j, j < k → L j ≤ 65536) := hL
  have c5 := hE.cls
  clear hE E rx hx hL
  go_enter Try.func29, Try.ntmps29
  go_wp2_with fail
  refine (like32 eb cb nr k l a c R N Bf X L V bare _ hnr hl' HE.out HEL.out RX.out HX.out).mono ?_
  rintro e w1 ⟨b, o, v, rfl, hcv, hinv, q, rfl⟩
  go_wp2
  go_loopg [5] (k + 1) (fun g i wr => ∃ v bnd : Nat, ∃ q, wr = w.drewN q ∧ i = .int .u32 (v : Int) ∧ Hid (Inv R nr V L k X l v bnd) ∧ g = bnd + 1)
  case atStart => exact ⟨v, k, q, rfl, rfl, hinv, rfl⟩
  case round =>
    clear hinv hcv
    obtain ⟨v2, bnd, q2, rfl, rfl, hinv, rfl⟩ := hrel
    have hle := hinv.out.le
    have hlk := hinv.out.lek
    by_cases hv : v2 = 0
    · subst hv
      go_wp2
      go_ret
      exact ⟨none, rfl, hinv.out.none, _, rfl⟩
    · obtain ⟨i, rfl⟩ : ∃ i, v2 = i + 1 := ⟨v2 - 1, by omega⟩
      obtain ⟨ai, ci, g0, ri, g2⟩ := HE.out.row i (by omega)
      have RI : Hid (Row .u32 w ai (L i) (V i)) := ri
      have ev : (((i + 1 : Nat) : Int) != 0) = true := by rw [bne_iff_ne]; omega
      have ev' : ((i : Int) + 1 != 0) = true := by rw [bne_iff_ne]; omega
      clear ri hv
      by_cases hs : Same (V i) (L i) X l
      · have HS : Hid (Same (V i) (L i) X l) := hs
        clear hs
        go_wp2_with fail
        refine (equal_t _ (HL.out i (by omega)) hl' (RI.out.drewN _) (RX.out.drewN _) HS.out).mono ?_
        rintro e w1 ⟨rfl, q3, rfl⟩
        go_wp2
        go_ret
        exact ⟨some i, rfl, hinv.out.found HS.out, _, rfl⟩
      · have HS : Hid (¬ Same (V i) (L i) X l) := hs
        clear hs
        obtain ⟨v3, hv3, hinv3⟩ := hinv.out.step HEL.out HS.out
        rw [hv3] at g2
        have HI3 : Hid (Inv R nr V L k X l v3 i) := hinv3
        clear hv3 hinv3
        go_wp2_with fail
        refine (equal_f _ (HL.out i (by omega)) hl' (RI.out.drewN _) (RX.out.drewN _) HS.out).mono ?_
        rintro e w1 ⟨rfl, q3, rfl⟩
        go_wp2
        go_roundg (i + 1)
        case measure => omega
        case rel => exact ⟨v3, i, _, rfl, rfl, HI3, rfl⟩

theorem class17 (eb cb nr k l : Nat) (a : Option Addr) (c : Nat) (R N Bf X : Nat → Int) (L : Nat → Nat) (V : Nat → Nat → Int) (bare : Int) (w : World) (hnr : nr ≤ 65536) (hk : k ≤ 65536) (hl' : l ≤ 65536) (hL : ∀ j, j < k → L j ≤ 65536)
    (hE : ElemAt w eb cb nr k R N Bf L V bare) (E : Elem R nr V L k Bf N bare) (rx : Row .u32 w a l X) (hx : Lies R nr X l) :
    Calls Try.prog 17 #[.pointer (some ⟨eb, 0, none⟩), .slice a l c] w fun e w' => ∃ r : Option Nat, e = .returned (.pointer (r.map fun c => ⟨cb, c * 3, none⟩)) ∧ Found V L k X l r ∧ ∃ q, w' = w.drewN q := by
  have HE : Hid (ElemAt w eb cb nr k R N Bf L V bare) := hE
  have HEL : Hid (Elem R nr V L k Bf N bare) := E
  have RX : Hid (Row .u32 w a l X) := rx
  have HX : Hid (Lies R nr X l) := hx
  have HL : Hid (∀ j, j < k → L j ≤ 65536) := hL
  clear hE E rx hx hL
  go_enter Try.func17, Try.ntmps17
  go_wp2_with fail
  refine (class29 eb cb nr k l a c R N Bf X L V bare _ hnr hk hl' HL.out HE.out HEL.out RX.out HX.out).mono ?_
  rintro e w1 ⟨r, rfl, hf, q, rfl⟩
  go_wp2
  go_ret
  exact ⟨r, rfl, hf, _, rfl⟩

theorem at20 (eb cb k j : Nat) (w : World) (hk : k ≤ 65536) (hj : j < k) (c5 : w.cell? ⟨eb, 5, none⟩ = some (.slice (some ⟨cb, 0, none⟩) k k)) :
    Calls Try.prog 20 #[.pointer (some ⟨eb, 0, none⟩), .int .i64 (j : Int)] w fun e w' => e = .returned (.pointer (some ⟨cb, j * 3, none⟩)) ∧ w' = w := by
  go_enter Try.func20, Try.ntmps20
  go_wp2
  go_ret
  exact ⟨rfl, rfl⟩

end Go.Proofs.Qxb6604360a
