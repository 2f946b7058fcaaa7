import Derived.Test.Qxb6609544aDoorNl
import Derived.Test.Qxb6609544aDoorZzb
namespace Go.Proofs.Qxb6609544aDoor
open Go.RowKit

theorem R8.below {w w' : World} {oa : Option Addr} {N : Nat} {D : Nat → Int × Int} (h : R8 w oa N D) (hb : RowKit.Below w.heap.size w w') : R8 w' oa N D := fun h0 => by
  obtain ⟨b, off, e, hlt, hc⟩ := h h0
  exact ⟨b, off, e, Nat.lt_of_lt_of_le hlt hb.size, fun i hi j hj => (hb.cell (p := ⟨b, off + i * 8 + j, none⟩) hlt).trans (hc i hi j hj)⟩

set_option maxHeartbeats 2000000 in
set_option maxRecDepth 10000 in
theorem law_any (w : World) (zp : Addr) (o1 o2 : Option Addr) (N1 N2 c1 c2 : Nat) (D1 D2 : Nat → Int × Int) (hz : Zs w zp) (hr1 : R8 w o1 N1 D1) (hr2 : R8 w o2 N2 D2) (hD1 : allN N1 D1) (hD2 : allN N2 D2) (hn1 : N1 ≤ 9223372036854775807) (hn2 : N2 ≤ 9223372036854775807) :
    Calls Tryd.prog 3 #[.slice o1 N1 c1, .slice o2 N2 c2] w fun e w' => e = .returned (.bool true) ∧ RowKit.Below w.heap.size w w' := by
  have K7 := hide (zzBytes_any o1 o2 N1 N2 c1 c2 w (by omega) (by omega))
  have K8a : Hid (∀ W, RowKit.Below w.heap.size w W → Calls Tryd.prog 8 #[.slice o1 N1 c1] W fun e w' => RetB e ∧ Gr W w') := fun W hW => rangesOK_any o1 N1 c1 D1 W (hr1.below hW) (by omega) hD1
  have K8b : Hid (∀ W, RowKit.Below w.heap.size w W → Calls Tryd.prog 8 #[.slice o2 N2 c2] W fun e w' => RetB e ∧ Gr W w') := fun W hW => rangesOK_any o2 N2 c2 D2 W (hr2.below hW) (by omega) hD2
  have K10a : Hid (N1 ≤ 131072 → ∀ W, RowKit.Below w.heap.size w W → Calls Tryd.prog 10 #[.slice o1 N1 c1] W fun e w' => e = .returned (.slice (some ⟨W.heap.size, 0, none⟩) N1 N1) ∧ Ent W zp N1 N1 D1 w') := fun hN W hW => entriesOf_any W zp o1 N1 c1 D1 (hz.below hW) (hr1.below hW) hD1 hN
  have K10b : Hid (N2 ≤ 131072 → ∀ W, RowKit.Below w.heap.size w W → Calls Tryd.prog 10 #[.slice o2 N2 c2] W fun e w' => e = .returned (.slice (some ⟨W.heap.size, 0, none⟩) N2 N2) ∧ Ent W zp N2 N2 D2 w') := fun hN W hW => entriesOf_any W zp o2 N2 c2 D2 (hz.below hW) (hr2.below hW) hD2 hN
  have K11a : Hid (N1 ≤ 131072 → ∀ W p l, RowKit.Below w.heap.size w W → SetP W zp N1 D1 p l → Calls Tryd.prog 11 #[.pointer p, .slice o1 N1 c1, .agg #[.int .u8 0, .int .u8 0, .int .u8 0, .int .u8 0, .int .u8 0, .int .u8 0, .int .u8 0, .int .u8 0], .bool false] W fun e w' => e = .returned (.bool true) ∧ RowKit.Below W.heap.size W w') := fun hN W p l hW hp => treeIs_any W zp N1 p l o1 N1 c1 D1 (hz.below hW) hp.1 hp.2.1 hp.2.2.1 (Nat.le_trans hp.2.2.2.1 hN) (hr1.below hW) hD1 hN hp.2.2.2.2.1 hp.2.2.2.2.2
  have K11b : Hid (N2 ≤ 131072 → ∀ W p l, RowKit.Below w.heap.size w W → SetP W zp N2 D2 p l → Calls Tryd.prog 11 #[.pointer p, .slice o2 N2 c2, .agg #[.int .u8 0, .int .u8 0, .int .u8 0, .int .u8 0, .int .u8 0, .int .u8 0, .int .u8 0, .int .u8 0], .bool false] W fun e w' => e = .returned (.bool true) ∧ RowKit.Below W.heap.size W w') := fun hN W p l hW hp => treeIs_any W zp N2 p l o2 N2 c2 D2 (hz.below hW) hp.1 hp.2.1 hp.2.2.1 (Nat.le_trans hp.2.2.2.1 hN) (hr2.below hW) hD2 hN hp.2.2.2.2.1 hp.2.2.2.2.2
  have HZ := hide hz
  have HD1 := hide hD1
  have HD2 := hide hD2
  clear hz hr1 hr2 hD1 hD2
  go_enter Tryd.func3, Tryd.ntmps3
  go_wp2_with fail
  refine Calls.mono (unhide K7) ?_
  rintro e w' ⟨⟨r, rfl⟩, hw⟩
  obtain rfl : w = w' := hw.symm
  clear K7
  cases r with
  | false =>
    go_wp2_with fail
    go_ret
    exact ⟨rfl, RowKit.Below.refl _ _⟩
  | true =>
    by_cases n1 : N1 ≤ 131072
    · by_cases n2 : N2 ≤ 131072
      · have w1' : IntKind.i64.wrap (8 * (N1 : Int)) = 8 * (N1 : Int) := by rw [IntKind.wrap_i64]; omega
        have w2' : IntKind.i64.wrap (8 * (N2 : Int)) = 8 * (N2 : Int) := by rw [IntKind.wrap_i64]; omega
        have w3' : IntKind.i64.wrap (8 * (N1 : Int) + 8 * (N2 : Int)) = 8 * (N1 : Int) + 8 * (N2 : Int) := by rw [IntKind.wrap_i64]; omega
        by_cases n3 : 8 * (N1 : Int) + 8 * (N2 : Int) ≤ 1048576
        · go_wp2_with fail
          refine Calls.mono (unhide K8a w (RowKit.Below.refl _ _)) ?_
          rintro e w1 ⟨⟨r1, rfl⟩, g1⟩
          have B1 : Hid (RowKit.Below w.heap.size w w1) := g1.below
          clear g1
          cases r1 with
          | false =>
            go_wp2_with fail
            go_ret
            exact ⟨rfl, unhide B1⟩
          | true =>
            go_wp2_with fail
            refine Calls.mono (unhide K8b w1 (unhide B1)) ?_
            rintro e w2 ⟨⟨r2, rfl⟩, g2⟩
            have B2 : Hid (RowKit.Below w.heap.size w w2) := (unhide B1).trans (g2.below.mono (unhide B1).size)
            clear g2 B1
            cases r2 with
            | false =>
              go_wp2_with fail
              go_ret
              exact ⟨rfl, unhide B2⟩
            | true =>
              go_wp2_with fail
              refine Calls.mono (unhide K10a n1 w2 (unhide B2)) ?_
              rintro e w3 ⟨rfl, t3⟩
              have B3 : Hid (RowKit.Below w.heap.size w w3) := (unhide B2).trans (t3.1.mono (unhide B2).size)
              have T3 := hide t3
              clear t3
              go_wp2_with fail
              refine Calls.mono (unhide K10b n2 w3 (unhide B3)) ?_
              rintro e w4 ⟨rfl, t4⟩
              have B4 : Hid (RowKit.Below w.heap.size w w4) := (unhide B3).trans (t4.1.mono (unhide B3).size)
              have K9 := hide (newLists_any w4 zp w2.heap.size w3.heap.size N1 N2 D1 D2 ((unhide HZ).below (unhide B4)) (Nat.lt_of_lt_of_le (unhide T3).2.2.2 t4.1.size) t4.2.2.2 ((unhide T3).2.1.below t4.1 (unhide T3).2.2.2) t4.2.1 (unhide HD1) (unhide HD2) n1 n2)
              clear t4 T3 B3 B2
              go_wp2_with fail
              refine Calls.mono (unhide K9) ?_
              rintro e w5 ⟨L, rfl, t5⟩
              obtain ⟨p1, l1, p2, l2, k0, k1, hL, s1, s2, b5⟩ := t5
              have B5 : Hid (RowKit.Below w.heap.size w w5) := (unhide B4).trans (b5.mono (unhide B4).size)
              have S1 := hide s1
              have S2 := hide s2
              have K13 := hide (allow_any w5 L hL p1 k0)
              have K1' := hide k1
              have HL := hide hL
              clear b5 s1 s2 k0 k1 hL B4 K9
              go_wp2_with fail
              refine Calls.mono (unhide K13) ?_
              rintro e w6 ⟨rfl, g6⟩
              have B56 := Gr.below g6
              clear g6
              go_wp2_with fail
              refine Calls.mono (root_any w6 p1) ?_
              rintro e w7 ⟨rfl, g7⟩
              have B57 : Hid (RowKit.Below w5.heap.size w5 w7) := B56.trans ((Gr.below g7).mono B56.size)
              clear g7 B56
              go_wp2_with fail
              refine Calls.mono (unhide K11a n1 w7 p1 l1 ((unhide B5).trans ((unhide B57).mono (unhide B5).size)) ((unhide S1).below (unhide B57))) ?_
              rintro e w8 ⟨rfl, b8⟩
              have B58 : Hid (RowKit.Below w5.heap.size w5 w8) := (unhide B57).trans (b8.mono (unhide B57).size)
              clear b8 B57
              have K14 := hide (deny_any w8 L (Nat.lt_of_lt_of_le (unhide HL) (unhide B58).size) p2 (((unhide B58).cell (p := ⟨L, 1, none⟩) (unhide HL)).trans (unhide K1')))
              go_wp2_with fail
              refine Calls.mono (unhide K14) ?_
              rintro e w9 ⟨rfl, g9⟩
              have B59 : Hid (RowKit.Below w5.heap.size w5 w9) := (unhide B58).trans ((Gr.below g9).mono (unhide B58).size)
              clear g9
              go_wp2_with fail
              refine Calls.mono (root_any w9 p2) ?_
              rintro e w10 ⟨rfl, g10⟩
              have B510 : Hid (RowKit.Below w5.heap.size w5 w10) := (unhide B59).trans ((Gr.below g10).mono (unhide B59).size)
              clear g10
              go_wp2_with fail
              refine Calls.mono (unhide K11b n2 w10 p2 l2 ((unhide B5).trans ((unhide B510).mono (unhide B5).size)) ((unhide S2).below (unhide B510))) ?_
              rintro e w11 ⟨rfl, b11⟩
              have B11 : Hid (RowKit.Below w.heap.size w w11) := ((unhide B5).trans ((unhide B510).mono (unhide B5).size)).trans (b11.mono (Nat.le_trans (unhide B5).size (unhide B510).size))
              clear b11
              go_wp2_with fail
              go_ret
              exact ⟨rfl, unhide B11⟩
        · go_wp2_with fail
          go_ret
          exact ⟨rfl, RowKit.Below.refl _ _⟩
      · go_wp2_with fail
        go_ret
        exact ⟨rfl, RowKit.Below.refl _ _⟩
    · go_wp2_with fail
      go_ret
      exact ⟨rfl, RowKit.Below.refl _ _⟩
end Go.Proofs.Qxb6609544aDoor
