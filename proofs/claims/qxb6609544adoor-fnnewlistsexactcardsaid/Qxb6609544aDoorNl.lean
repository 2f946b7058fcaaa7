import Derived.Test.Qxb6609544aDoorNw
namespace Go.Proofs.Qxb6609544aDoor
open Go.RowKit

/-- A tree of the distinct ones of D's first N. -/
def SetP (w : World) (zp : Addr) (N : Nat) (D : Nat → Int × Int) (p : Option Addr) (l : List (Int × Int)) : Prop := Tree w zp w.heap.size N p l ∧ allL l ∧ asc l.length (LD l) ∧ l.length ≤ N ∧ (∀ i, i < N → ∃ j, j < l.length ∧ LD l j = D i) ∧ (∀ j, j < l.length → ∃ i, i < N ∧ LD l j = D i)
theorem SetP.below {w w' : World} {zp : Addr} {N : Nat} {D : Nat → Int × Int} {p : Option Addr} {l : List (Int × Int)} (h : SetP w zp N D p l) (hb : RowKit.Below w.heap.size w w') : SetP w' zp N D p l := ⟨(h.1.below hb).mono hb.size, h.2⟩
def Lst (w : World) (zp : Addr) (N1 N2 : Nat) (D1 D2 : Nat → Int × Int) (L : Nat) (w' : World) : Prop := ∃ p1 l1 p2 l2, w'.cell? ⟨L, 0, none⟩ = some (.pointer p1) ∧ w'.cell? ⟨L, 1, none⟩ = some (.pointer p2) ∧ L < w'.heap.size ∧ SetP w' zp N1 D1 p1 l1 ∧ SetP w' zp N2 D2 p2 l2 ∧ RowKit.Below w.heap.size w w'

set_option maxHeartbeats 1000000 in
theorem newLists_any (w : World) (zp : Addr) (B1 B2 N1 N2 : Nat) (D1 D2 : Nat → Int × Int) (hz : Zs w zp) (hB1 : B1 < w.heap.size) (hB2 : B2 < w.heap.size) (h1 : H6 w zp B1 0 N1 D1) (h2 : H6 w zp B2 0 N2 D2) (hD1 : allN N1 D1) (hD2 : allN N2 D2) (hN1 : N1 ≤ 131072) (hN2 : N2 ≤ 131072) :
    Calls Tryd.prog 9 #[.slice (some ⟨B1, 0, none⟩) N1 N1, .slice (some ⟨B2, 0, none⟩) N2 N2] w fun e w' => ∃ L, e = .returned (.pointer (some ⟨L, 0, none⟩)) ∧ Lst w zp N1 N2 D1 D2 L w' := by
  have K1 := hide (newSet_any w zp B1 N1 N1 D1 hz hB1 h1 hD1 hN1)
  have K2 : Hid (∀ W, RowKit.Below w.heap.size w W → Calls Tryd.prog 26 #[.slice (some ⟨B2, 0, none⟩) N2 N2] W fun e w' => ∃ p l, e = .returned (.agg #[.pointer p]) ∧ SetOK W zp N2 D2 p l w') := fun W hW => newSet_any W zp B2 N2 N2 D2 (hz.below hW) (Nat.lt_of_lt_of_le hB2 hW.size) (h2.below hW hB2) hD2 hN2
  clear hz hB1 hB2 h1 h2 hD1 hD2
  go_enter Tryd.func9, Tryd.ntmps9
  go_wp2_with fail
  refine Calls.mono (unhide K1) ?_
  rintro e w1 ⟨p1, l1, rfl, s1⟩
  replace s1 := hide s1
  go_wp2_with fail
  refine Calls.mono (unhide K2 w1 (unhide s1).2.1) ?_
  rintro e w2 ⟨p2, l2, rfl, s2⟩
  replace s2 := hide s2
  go_wp2_with fail
  go_ret
  have b3 : RowKit.Below w2.heap.size w2 (w2.alloc (.cells #[.pointer p1, .pointer p2] 59)) := (RowKit.Below.refl _ _).alloc (Nat.le_refl _) _
  obtain ⟨a1, a2, a3⟩ := unhide s1
  obtain ⟨c1, c2, c3⟩ := unhide s2
  have P1 : SetP w1 zp N1 D1 p1 l1 := ⟨a1, a3⟩
  have P2 : SetP w2 zp N2 D2 p2 l2 := ⟨c1, c3⟩
  exact ⟨w2.heap.size, rfl, p1, l1, p2, l2, by simp, by simp, by simp, (P1.below c2).below b3, P2.below b3, (a2.trans (c2.mono a2.size)).trans (b3.mono (Nat.le_trans a2.size c2.size))⟩
end Go.Proofs.Qxb6609544aDoor
