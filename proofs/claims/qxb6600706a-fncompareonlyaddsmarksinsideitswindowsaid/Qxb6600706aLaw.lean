import Derived.Test.Qxb6600706aZz
namespace Go.Proofs.Qxb6600706a
open Go.RowKit

set_option maxHeartbeats 4000000 in
set_option maxRecDepth 100000 in
theorem law (oa ob oc od : Option Addr) (N K N2 K2 c1 c2 c3 c4 : Nat) (S T : Nat → ByteArray) (A B : Nat → Bool) (a0 a1 b0 b1 : Int) (w : World) (hA : SRow w oa N S) (hB : SRow w ob K T) (hC : BRow w oc N2 A) (hD : BRow w od K2 B)
    (na : oa = none → N = 0) (nb : ob = none → K = 0) (nc : oc = none → N2 = 0) (nd : od = none → K2 = 0)
    (hN : N ≤ 9223372036854775807) (hK : K ≤ 9223372036854775807) (hN2 : N2 ≤ 9223372036854775807) (hK2 : K2 ≤ 9223372036854775807) (hS : ∀ i, i < N → (S i).size ≤ 9223372036854775807) (hT : ∀ i, i < K → (T i).size ≤ 9223372036854775807) :
    Calls Try.prog 6 #[.slice oa N c1, .slice ob K c2, .slice oc N2 c3, .slice od K2 c4, .int .i64 a0, .int .i64 a1, .int .i64 b0, .int .i64 b1] w fun e w' => e = .returned (.bool true) ∧ Below w.heap.size w w' := by
  have HA := hide hA
  have HB := hide hB
  have HC := hide hC
  have HD := hide hD
  have HNA := hide na
  have HNB := hide nb
  have HNC := hide nc
  have HND := hide nd
  have HS := hide hS
  have HT := hide hT
  clear hA hB hC hD na nb nc nd hS hT
  go_enter Try.func6, Try.ntmps6
  go_wp2_with fail
  refine (zz_any oa ob oc od N K N2 K2 c1 c2 c3 c4 S T a0 a1 b0 b1 w (unhide HA) (unhide HB) hN hK hN2 hK2 (unhide HS) (unhide HT)).mono ?_
  rintro e w' ⟨⟨r, rfl⟩, rfl⟩
  cases r with
  | false => go_wp2_with fail; go_ret; exact ⟨rfl, Below.refl _ _⟩
  | true =>
  by_cases t1 : (1048576 : Int) < (N2 : Int)
  · go_wp2_with fail; go_ret; exact ⟨rfl, Below.refl _ _⟩
  by_cases t2 : (1048576 : Int) < (K2 : Int)
  · go_wp2_with fail; go_ret; exact ⟨rfl, Below.refl _ _⟩
  go_wp2_with fail
  refine (bytes_any oa N c1 S _ (unhide HA) hN (unhide HS)).mono ?_
  rintro e w'' ⟨r1, rfl, hr1, hr1', rfl⟩
  go_wp2_with fail
  refine (bytes_any ob K c2 T _ (unhide HB) hK (unhide HT)).mono ?_
  rintro e w' ⟨r2, rfl, hr2, hr2', rfl⟩
  by_cases t3 : (1048576 : Int) < r1 + r2 + (N2 : Int) + (K2 : Int)
  · go_wp2_with fail; go_ret; exact ⟨rfl, Below.refl _ _⟩
  by_cases t4 : (4096 : Int) < (N : Int)
  · go_wp2_with fail; go_ret; exact ⟨rfl, Below.refl _ _⟩
  by_cases t5 : (4096 : Int) < (K : Int)
  · go_wp2_with fail; go_ret; exact ⟨rfl, Below.refl _ _⟩
  by_cases t6 : N2 = N
  rotate_left
  · have t6' : ((N2 : Int) != (N : Int)) = true := by simp; omega
    go_wp2_with fail; go_ret; exact ⟨rfl, Below.refl _ _⟩
  by_cases t7 : K2 = K
  rotate_left
  · have t7' : ((K2 : Int) != (K : Int)) = true := by simp; omega
    have t6' : ((N2 : Int) != (N : Int)) = false := by simp; omega
    go_wp2_with fail; go_ret; exact ⟨rfl, Below.refl _ _⟩
  subst t6 t7
  by_cases t8 : a0 < 0
  · go_wp2_with fail; go_ret; exact ⟨rfl, Below.refl _ _⟩
  by_cases t9 : a1 < a0
  · go_wp2_with fail; go_ret; exact ⟨rfl, Below.refl _ _⟩
  by_cases t10 : (N2 : Int) < a1
  · go_wp2_with fail; go_ret; exact ⟨rfl, Below.refl _ _⟩
  by_cases t11 : b0 < 0
  · go_wp2_with fail; go_ret; exact ⟨rfl, Below.refl _ _⟩
  by_cases t12 : b1 < b0
  · go_wp2_with fail; go_ret; exact ⟨rfl, Below.refl _ _⟩
  by_cases t13 : (K2 : Int) < b1
  · go_wp2_with fail; go_ret; exact ⟨rfl, Below.refl _ _⟩
  clear HS HT
  have m1 : N2 ≤ 10000 := by omega
  have m2 : K2 ≤ 10000 := by omega
  go_wp2_with fail
  -- the six copies
  refine (cloneS_any oa N2 c1 S w' (unhide HA) m1 (unhide HNA)).mono ?_
  rintro e w1 ⟨o1, d1, rfl, n1, p1, bb1⟩
  have HB1 := hide bb1
  have HP1 := hide p1
  clear bb1 p1 n1 HA HNA
  go_wp2_with fail
  refine (cloneS_any ob K2 c2 T w1 ((unhide HB).below (unhide HB1)) m2 (unhide HNB)).mono ?_
  rintro e w2 ⟨o2, d2, rfl, n2, p2, bb2⟩
  have HB2 := hide bb2
  have HP2 := hide p2
  clear bb2 p2 n2 HB HNB
  have HB02 : Hid (Below w'.heap.size w' w2) := (unhide HB1).trans ((unhide HB2).mono (unhide HB1).size)
  go_wp2_with fail
  refine (cloneB_any oc N2 c3 A w2 ((unhide HC).below (unhide HB02)) m1 (unhide HNC)).mono ?_
  rintro e w3 ⟨o3, d3, rfl, n3, p3, bb3⟩
  have HB3 := hide bb3
  have HP3 := hide p3
  have HN3 := hide n3
  clear bb3 p3 n3 HC HNC
  have HB03 : Hid (Below w'.heap.size w' w3) := (unhide HB02).trans ((unhide HB3).mono (unhide HB02).size)
  go_wp2_with fail
  refine (cloneB_any od K2 c4 B w3 ((unhide HD).below (unhide HB03)) m2 (unhide HND)).mono ?_
  rintro e w4 ⟨o4, d4, rfl, n4, p4, bb4⟩
  have HB4 := hide bb4
  have HP4 := hide p4
  have HN4 := hide n4
  clear bb4 p4 n4 HD HND
  have HR3 : Hid (BRow w4 o3 N2 A) := fun h0 => by
    obtain ⟨q1, q2, q3, q4, q5⟩ := unhide HP3 h0
    have hlt : w2.heap.size < w3.heap.size := by omega
    exact ⟨w2.heap.size, 0, q1, Nat.lt_of_lt_of_le hlt (unhide HB4).size, fun i hi => by rw [Nat.zero_add, (unhide HB4).cell (p := ⟨w2.heap.size, i, none⟩) hlt]; exact q5 i hi⟩
  have HR4 : Hid (BRow w4 o4 K2 B) := fun h0 => by
    obtain ⟨q1, q2, q3, q4, q5⟩ := unhide HP4 h0
    exact ⟨w3.heap.size, 0, q1, by omega, fun i hi => by rw [Nat.zero_add]; exact q5 i hi⟩
  go_wp2_with fail
  refine (cloneB_any o3 N2 d3 A w4 (unhide HR3) m1 (unhide HN3)).mono ?_
  rintro e w5 ⟨o5, d5, rfl, n5, p5, bb5⟩
  have HB5 := hide bb5
  have HP5 := hide p5
  clear bb5 p5 n5 HN3
  go_wp2_with fail
  refine (cloneB_any o4 K2 d4 B w5 ((unhide HR4).below (unhide HB5)) m2 (unhide HN4)).mono ?_
  rintro e w6 ⟨o6, d6, rfl, n6, p6, bb6⟩
  have HB6 := hide bb6
  have HP6 := hide p6
  clear bb6 p6 n6 HN4 HR3 HR4
  obtain ⟨ka, kb, HKK⟩ : ∃ ka kb : Nat, Hid ((0 < N2 → ka = w2.heap.size) ∧ (0 < K2 → kb = w3.heap.size) ∧ w'.heap.size ≤ ka ∧ w'.heap.size ≤ kb ∧ (0 < N2 → w4.heap.size ≠ ka ∧ w4.heap.size ≠ kb) ∧ (0 < K2 → w5.heap.size ≠ ka ∧ w5.heap.size ≠ kb)) := by
    have z1 := (unhide HB1).size
    have z2 := (unhide HB2).size
    have z3 := (unhide HB3).size
    have z4 := (unhide HB4).size
    have z5 := (unhide HB5).size
    have y3 := fun h0 => (unhide HP3 h0).2.2.1
    have y4 := fun h0 => (unhide HP4 h0).2.2.1
    refine ⟨if N2 = 0 then w3.heap.size else w2.heap.size, if K2 = 0 then w2.heap.size else w3.heap.size, fun h0 => if_neg (by omega), fun h0 => if_neg (by omega), by split <;> omega, by split <;> omega, fun h0 => ?_, fun h0 => ?_⟩
    · have := y3 h0
      rw [if_neg (by omega)]
      refine ⟨by omega, ?_⟩
      by_cases hk : K2 = 0
      · rw [if_pos hk]; omega
      · have := y4 (by omega)
        rw [if_neg hk]; omega
    · have := y4 h0
      rw [if_neg (c := K2 = 0) (by omega)]
      refine ⟨?_, by omega⟩
      split <;> omega
  have HF : Hid (Four w6 o1 o2 o3 o4 d1 d2 d3 d4 w'.heap.size w1.heap.size ka kb N2 K2 S T A B ∧ Below w'.heap.size w' w6) := by
    have b1 := unhide HB1
    have b2 := unhide HB2
    have b3 := unhide HB3
    have b4 := unhide HB4
    have b5 := unhide HB5
    have b6 := unhide HB6
    have z1 := b1.size
    have z2 := b2.size
    have z3 := b3.size
    have z4 := b4.size
    have z5 := b5.size
    have z6 := b6.size
    have c46 : Below w4.heap.size w4 w6 := b5.trans (b6.mono z5)
    have c36 : Below w3.heap.size w3 w6 := b4.trans (c46.mono z4)
    have c26 : Below w2.heap.size w2 w6 := b3.trans (c36.mono z3)
    have c16 : Below w1.heap.size w1 w6 := b2.trans (c26.mono z2)
    obtain ⟨x1, x2, _, _, _, _⟩ := unhide HKK
    refine ⟨⟨fun h0 => ?_, fun h0 => ?_, fun h0 => ?_, fun h0 => ?_, fun h0 h1 => ?_⟩, b1.trans (c16.mono z1)⟩
    · obtain ⟨q1, q2, q3, q4, q5⟩ := unhide HP1 h0
      exact ⟨q1, q2, by omega, fun i hi => by rw [c16.cell (p := ⟨w'.heap.size, i, none⟩) (by show w'.heap.size < _; omega)]; exact q5 i hi⟩
    · obtain ⟨q1, q2, q3, q4, q5⟩ := unhide HP2 h0
      exact ⟨q1, q2, by omega, fun i hi => by rw [c26.cell (p := ⟨w1.heap.size, i, none⟩) (by show w1.heap.size < _; omega)]; exact q5 i hi⟩
    · obtain ⟨q1, q2, q3, q4, q5⟩ := unhide HP3 h0
      rw [x1 h0]
      exact ⟨q1, q2, by omega, fun i => by rw [c36.frozen (p := ⟨w2.heap.size, i, none⟩) (by show w2.heap.size < _; omega)]; exact q4 i, fun i hi => by rw [c36.cell (p := ⟨w2.heap.size, i, none⟩) (by show w2.heap.size < _; omega)]; exact q5 i hi⟩
    · obtain ⟨q1, q2, q3, q4, q5⟩ := unhide HP4 h0
      rw [x2 h0]
      exact ⟨q1, q2, by omega, fun i => by rw [c46.frozen (p := ⟨w3.heap.size, i, none⟩) (by show w3.heap.size < _; omega)]; exact q4 i, fun i hi => by rw [c46.cell (p := ⟨w3.heap.size, i, none⟩) (by show w3.heap.size < _; omega)]; exact q5 i hi⟩
    · have q1 := (unhide HP1 h0).2.2.1
      have q2 := (unhide HP2 h1).2.2.1
      have q3 := (unhide HP3 h0).2.2.1
      have x1 := x1 h0
      have x2 := x2 h1
      refine ⟨by omega, by omega, by omega, by omega, by omega⟩
  have HO : Hid ((0 < N2 → o3 = some ⟨ka, 0, none⟩ ∧ o5 = some ⟨w4.heap.size, 0, none⟩ ∧ w4.heap.size < w6.heap.size ∧ ∀ i, i < N2 → w6.cell? ⟨w4.heap.size, i, none⟩ = some (.bool (A i))) ∧
      (0 < K2 → o4 = some ⟨kb, 0, none⟩ ∧ o6 = some ⟨w5.heap.size, 0, none⟩ ∧ w5.heap.size < w6.heap.size ∧ ∀ i, i < K2 → w6.cell? ⟨w5.heap.size, i, none⟩ = some (.bool (B i)))) := by
    have z6 := (unhide HB6).size
    obtain ⟨x1, x2, _, _, _, _⟩ := unhide HKK
    refine ⟨fun h0 => ?_, fun h0 => ?_⟩
    · obtain ⟨q1, _, q3, _, _⟩ := unhide HP3 h0
      obtain ⟨s1, _, s3, _, s5⟩ := unhide HP5 h0
      exact ⟨by rw [x1 h0]; exact q1, s1, by omega, fun i hi => by rw [(unhide HB6).cell (p := ⟨w4.heap.size, i, none⟩) (by show w4.heap.size < _; omega)]; exact s5 i hi⟩
    · obtain ⟨q1, _, q3, _, _⟩ := unhide HP4 h0
      obtain ⟨s1, _, s3, _, s5⟩ := unhide HP6 h0
      exact ⟨by rw [x2 h0]; exact q1, s1, by omega, s5⟩
  clear HB1 HB2 HB3 HB4 HB5 HB6 HP1 HP2 HP3 HP4 HP5 HP6 HB02 HB03
  go_wp2_with fail
  refine (zzcmp_any o1 o2 o3 o4 d1 d2 d3 d4 w'.heap.size w1.heap.size ka kb N2 K2 S T A B a0 a1 b0 b1 w6 (unhide HF).1 m1 m2 (by omega) (by omega) (by omega) (by omega) (by omega) (by omega)).mono ?_
  rintro e w7 ⟨rfl, A', B', hA', hB', hcA, hcB, hF⟩
  have HL : Hid (Below w'.heap.size w' w7 ∧ (0 < N2 → o3 = some ⟨ka, 0, none⟩ ∧ o5 = some ⟨w4.heap.size, 0, none⟩ ∧ ∀ i, i < N2 → w7.cell? ⟨ka, i, none⟩ = some (.bool (A' i)) ∧ w7.cell? ⟨w4.heap.size, i, none⟩ = some (.bool (A i))) ∧
      (0 < K2 → o4 = some ⟨kb, 0, none⟩ ∧ o6 = some ⟨w5.heap.size, 0, none⟩ ∧ ∀ i, i < K2 → w7.cell? ⟨kb, i, none⟩ = some (.bool (B' i)) ∧ w7.cell? ⟨w5.heap.size, i, none⟩ = some (.bool (B i)))) := by
    obtain ⟨_, _, x3, x4, x5, x6⟩ := unhide HKK
    have b6 := (unhide HF).2
    refine ⟨⟨hF.os.trans b6.os, hF.tape.trans b6.tape, hF.output.trans b6.output, Nat.le_trans b6.size hF.size, fun b hb => (hF.block b (Nat.lt_of_lt_of_le hb b6.size) (by omega) (by omega)).trans (b6.block b hb)⟩, fun h0 => ?_, fun h0 => ?_⟩
    · obtain ⟨q1, q2, q3, q4⟩ := (unhide HO).1 h0
      exact ⟨q1, q2, fun i hi => ⟨hcA h0 i hi, (World.cell?_of_block (w := w6) (hF.block _ q3 (x5 h0).1 (x5 h0).2)).trans (q4 i hi)⟩⟩
    · obtain ⟨q1, q2, q3, q4⟩ := (unhide HO).2 h0
      exact ⟨q1, q2, fun i hi => ⟨hcB h0 i hi, (World.cell?_of_block (w := w6) (hF.block _ q3 (x6 h0).1 (x6 h0).2)).trans (q4 i hi)⟩⟩
  have HAA := hide hA'
  have HBB := hide hB'
  clear hA' hB' hcA hcB hF HO HF HKK
  go_wp2_with fail
  go_loopg [19, 20] N2 (fun g iv _ wq => ∃ i : Nat, g = N2 - i ∧ i ≤ N2 ∧ iv = .int .i64 i ∧ Hid (∃ q, wq = w7.drewN q))
  case atStart => exact ⟨0, rfl, by omega, rfl, 0, rfl⟩
  case round =>
    obtain ⟨i, hg, hi, rfl, HQ⟩ := hrel
    obtain ⟨q, hq⟩ := unhide HQ
    subst hq
    have HG := hide hg
    clear hg HQ
    by_cases hlt : i < N2
    · obtain ⟨e1, e2, hcc⟩ := (unhide HL).2.1 (by omega)
      obtain ⟨g1, g2⟩ := hcc i hlt
      clear hcc
      subst e1 e2
      have u1 := (unhide HAA i).1
      have u2 := (unhide HAA i).2
      generalize A i = x at g2 u1 u2
      generalize A' i = y at g1 u1 u2
      by_cases k1 : a0 ≤ (i : Int)
      · by_cases k2 : (i : Int) < a1
        · cases x with
          | true =>
            obtain rfl := u2 rfl
            clear u1 u2
            go_wp2_with fail
            go_quiet (fail)
            go_wp2_with fail
            go_roundg (N2 - (i + 1))
            case measure => rw [unhide HG]; omega
            case rel => exact ⟨i + 1, rfl, by omega, by go_num, _, rfl⟩
          | false =>
            clear u1 u2
            go_wp2_with fail
            go_quiet (fail)
            go_wp2_with fail
            go_roundg (N2 - (i + 1))
            case measure => rw [unhide HG]; omega
            case rel => exact ⟨i + 1, rfl, by omega, by go_num, _, rfl⟩
        · obtain rfl := u1 (by omega)
          clear u1 u2
          cases y
          all_goals
            go_wp2_with fail
            go_quiet (fail)
            go_wp2_with fail
            go_roundg (N2 - (i + 1))
            case measure => rw [unhide HG]; omega
            case rel => exact ⟨i + 1, rfl, by omega, by go_num, _, rfl⟩
      · obtain rfl := u1 (by omega)
        clear u1 u2
        cases y
        all_goals
          go_wp2_with fail
          go_quiet (fail)
          go_wp2_with fail
          go_roundg (N2 - (i + 1))
          case measure => rw [unhide HG]; omega
          case rel => exact ⟨i + 1, rfl, by omega, by go_num, _, rfl⟩
    · go_wp2_with fail
      go_loopg [21, 22] K2 (fun g iv _ wq => ∃ i : Nat, g = K2 - i ∧ i ≤ K2 ∧ iv = .int .i64 i ∧ Hid (∃ q, wq = w7.drewN q))
      case atStart => exact ⟨0, rfl, by omega, rfl, q, rfl⟩
      case round =>
        clear hlt HG hi
        obtain ⟨i, hg, hi, rfl, HQ⟩ := hrel
        obtain ⟨q, hq⟩ := unhide HQ
        subst hq
        have HG := hide hg
        clear hg HQ
        by_cases hlt : i < K2
        · obtain ⟨e1, e2, hcc⟩ := (unhide HL).2.2 (by omega)
          obtain ⟨g1, g2⟩ := hcc i hlt
          clear hcc
          subst e1 e2
          have u1 := (unhide HBB i).1
          have u2 := (unhide HBB i).2
          generalize B i = x at g2 u1 u2
          generalize B' i = y at g1 u1 u2
          by_cases k1 : b0 ≤ (i : Int)
          · by_cases k2 : (i : Int) < b1
            · cases x with
              | true =>
                obtain rfl := u2 rfl
                clear u1 u2
                go_wp2_with fail
                go_quiet (fail)
                go_wp2_with fail
                go_roundg (K2 - (i + 1))
                case measure => rw [unhide HG]; omega
                case rel => exact ⟨i + 1, rfl, by omega, by go_num, _, rfl⟩
              | false =>
                clear u1 u2
                go_wp2_with fail
                go_quiet (fail)
                go_wp2_with fail
                go_roundg (K2 - (i + 1))
                case measure => rw [unhide HG]; omega
                case rel => exact ⟨i + 1, rfl, by omega, by go_num, _, rfl⟩
            · obtain rfl := u1 (by omega)
              clear u1 u2
              cases y
              all_goals
                go_wp2_with fail
                go_quiet (fail)
                go_wp2_with fail
                go_roundg (K2 - (i + 1))
                case measure => rw [unhide HG]; omega
                case rel => exact ⟨i + 1, rfl, by omega, by go_num, _, rfl⟩
          · obtain rfl := u1 (by omega)
            clear u1 u2
            cases y
            all_goals
              go_wp2_with fail
              go_quiet (fail)
              go_wp2_with fail
              go_roundg (K2 - (i + 1))
              case measure => rw [unhide HG]; omega
              case rel => exact ⟨i + 1, rfl, by omega, by go_num, _, rfl⟩
        · go_wp2_with fail
          go_ret
          exact ⟨rfl, below_drewN (unhide HL).1 _⟩
end Go.Proofs.Qxb6600706a
