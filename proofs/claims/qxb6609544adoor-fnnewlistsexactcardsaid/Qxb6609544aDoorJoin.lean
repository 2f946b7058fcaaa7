import Derived.Test.Qxb6609544aDoorTree
namespace Go.Proofs.Qxb6609544aDoor
open Go.RowKit Go.Sort

theorem idx0 (a b : Option Addr) (w : World) : (Instr.index 109 (.agg #[.pointer a, .pointer b]) (.int .i64 0)).run Tryd.prog w = .ok (.pointer a) w := by
  simp [Instr.index, run_underlying Tryd.underlying109, go_sem, part]
theorem idx1 (a b : Option Addr) (w : World) : (Instr.index 109 (.agg #[.pointer a, .pointer b]) (.int .i64 1)).run Tryd.prog w = .ok (.pointer b) w := by
  simp [Instr.index, run_underlying Tryd.underlying109, go_sem, part]

/-- A child: none, or a node of the size s and the reach r. -/
def Kid (w : World) (zp : Addr) (p : Option Addr) (s rch : Int) : Prop := (p = none ∧ s = 0 ∧ rch = -1) ∨ ∃ B x l r, p = some ⟨B, 0, none⟩ ∧ B < w.heap.size ∧ Node w zp B x l r s rch ∧ isN rch
def mx (a b : Int) : Int := if a < b then b else a
theorem mx_neg (a : Int) (h : 0 ≤ a) : mx a (-1) = a := by unfold mx; rw [if_neg (by omega)]

def pick3 (k : Nat) (a b c : Int) : Int := match k with | 0 => a | 1 => b | _ => c

/-- What holds of the new node through the loop. -/
def Mid (w : World) (zp : Addr) (x : Int × Int) (l r : Option Addr) (s rch : Int) (w' : World) : Prop := Below w.heap.size w w' ∧ Node w' zp (w.heap.size + 1) x l r s rch ∧ w.heap.size + 2 ≤ w'.heap.size ∧ ∀ j, w'.frozen? ⟨w.heap.size + 1, j, none⟩ = false

theorem size_setCell (w : World) (a : Addr) (v : Value) : (w.setCell a v).heap.size = w.heap.size := by simp [World.setCell]
theorem Mid.size8 {w w' : World} {zp : Addr} {x : Int × Int} {l r : Option Addr} {s rch : Int} (h : Mid w zp x l r s rch w') (s' : Int) : Mid w zp x l r s' rch (w'.setCell ⟨w.heap.size + 1, 8, none⟩ (.int .i64 s')) := by
  obtain ⟨m1, m2, m3, m4⟩ := h
  refine ⟨m1.setCell (by show w.heap.size ≤ w.heap.size + 1; omega) _, ?_, by rw [size_setCell]; exact m3, fun j => by rw [World.frozen?_setCell]; exact m4 j⟩
  unfold Node at *
  obtain ⟨h0, h1, h2, h3, h4, h5, h6, h7, h8, h9, h10, h11⟩ := m2
  simp [h0, h1, h2, h3, h4, h5, h6, h7, h8, h9, h10, h11, go_sem]
theorem Mid.gr {w w' w'' : World} {zp : Addr} {x : Int × Int} {l r : Option Addr} {s rch : Int} (h : Mid w zp x l r s rch w') (hg : Gr w' w'') : Mid w zp x l r s rch w'' := by
  obtain ⟨m1, m2, m3, m4⟩ := h
  have hb := hg.below
  exact ⟨m1.trans (hb.mono (by omega)), m2.below hb (by omega), Nat.le_trans m3 hb.size, fun j => (hb.frozen (p := ⟨w.heap.size + 1, j, none⟩) (by show w.heap.size + 1 < _; omega)).trans (m4 j)⟩
theorem Mid.reach {w w' : World} {zp : Addr} {x : Int × Int} {l r : Option Addr} {s rch : Int} (h : Mid w zp x l r s rch w') (n : Int) : Mid w zp x l r s n (((w'.setCell ⟨w.heap.size + 1, 9, none⟩ (.int .u64 0)).setCell ⟨w.heap.size + 1, 10, none⟩ (.int .u64 (281470681743360 + n))).setCell ⟨w.heap.size + 1, 11, none⟩ (.pointer (some zp))) := by
  obtain ⟨m1, m2, m3, m4⟩ := h
  have hb : w.heap.size ≤ w.heap.size + 1 := by omega
  refine ⟨((m1.setCell hb _).setCell hb _).setCell hb _, ?_, by simp only [size_setCell]; exact m3, fun j => by simp only [World.frozen?_setCell]; exact m4 j⟩
  unfold Node at *
  obtain ⟨h0, h1, h2, h3, h4, h5, h6, h7, h8, h9, h10, h11⟩ := m2
  simp [h0, h1, h2, h3, h4, h5, h6, h7, h8, h9, h10, h11, go_sem]

set_option maxHeartbeats 2000000 in
set_option maxRecDepth 10000 in
theorem join_any (w : World) (zp : Addr) (x : Int × Int) (l r : Option Addr) (sl sr rl rr : Int) (hz : Zs w zp) (hl : Kid w zp l sl rl) (hr : Kid w zp r sr rr) (hx : isN x.2) (h1 : 0 ≤ sl ∧ sl ≤ 1048576) (h2 : 0 ≤ sr ∧ sr ≤ 1048576) :
    Calls Tryd.prog 53 #[.pointer l, .agg (enc6 zp x).toArray, .pointer r] w fun e w' => e = .returned (.pointer (some ⟨w.heap.size + 1, 0, none⟩)) ∧ Mid w zp x l r (1 + sl + sr) (mx (mx x.2 rl) rr) w' := by
  have HZ := hide hz
  have HL := hide hl
  have HR := hide hr
  have HX := hide hx
  have H1 := hide h1
  have H2 := hide h2
  clear hz hl hr hx h1 h2
  obtain ⟨x1, x2⟩ := x
  simp only [enc6]
  go_enter Tryd.func53, Tryd.ntmps53
  go_wp2_with fail
  go_loopg [20] 2 (fun g kv w' => ∃ k : Nat, g = 2 - k ∧ k ≤ 2 ∧ kv = .int .i64 k ∧ Hid (Mid w zp (x1, x2) l r (pick3 k 1 (1 + sl) (1 + sl + sr)) (pick3 k x2 (mx x2 rl) (mx (mx x2 rl) rr)) w'))
  case atStart =>
    refine ⟨0, rfl, by omega, rfl, ?_⟩
    refine ⟨((Below.refl _ _).alloc (Nat.le_refl _) _).alloc (by simp) _, ?_, by simp, fun j => by simp⟩
    unfold Node
    simp [pick3]
  case round =>
    obtain ⟨k, hg, hk, rfl, HM⟩ := hrel
    have HG := hide hg
    clear hg
    by_cases k0 : k = 0
    · subst k0
      rcases unhide HL with ⟨rfl, e1, e2⟩ | ⟨B, y, yl, yr, rfl, hB, hN, hn⟩
      · have E1 := hide e1
        have E2 := hide e2
        clear e1 e2
        have q0 := idx0 none r
        go_wp2_with fail
        go_roundg 1
        case measure => rw [unhide HG]; omega
        case rel =>
          refine ⟨1, rfl, by omega, rfl, ?_⟩
          have hm : Mid w zp (x1, x2) none r 1 x2 wr := unhide HM
          show Mid w zp (x1, x2) none r (1 + sl) (mx x2 rl) wr
          rw [unhide E1, unhide E2, mx_neg _ (unhide HX).1]
          exact hm
      · have q0 := idx0 (some ⟨B, 0, none⟩) r
        obtain ⟨m1, m2, m3, m4⟩ : Mid w zp (x1, x2) (some ⟨B, 0, none⟩) r 1 x2 wr := unhide HM
        have hN' := hN.below m1 hB
        obtain ⟨h0, h1, h2, h3, h4, h5, h6, h7, h8, h9, h10, h11⟩ := m2
        obtain ⟨-, -, -, -, -, -, -, -, g8, g9, g10, g11⟩ := hN'
        have d1 : ¬ B = w.heap.size + 1 := by omega
        have d2 : ¬ w.heap.size + 1 = B := by omega
        have HM1 := hide m1
        have HM3 := hide m3
        have HN := hide hN
        have Hn := hide hn
        have HB := hide hB
        have s1 := unhide H1
        obtain ⟨s1, s2⟩ := s1
        clear m1 m3 hN hn hB
        go_wp2_with fail
        go_region
        have M7 := hide (((unhide HM : Mid w zp (x1, x2) (some ⟨B, 0, none⟩) r 1 x2 wr).size8 (1 + sl)).gr (Gr.refl _).drew)
        obtain ⟨w7, hw7⟩ : ∃ w7, w7 = (wr.setCell ⟨w.heap.size + 1, 8, none⟩ (.int .i64 (1 + sl))).drew := ⟨_, rfl⟩
        rw [← hw7] at M7 ⊢
        clear hw7 h0 h1 h2 h3 h4 h5 h6 h7 h8 h9 h10 h11 g8 g9 g10 g11 m4
        have A := fun n os => ((unhide M7).gr ⟨n, os, rfl⟩).2.1
        have C := fun n os => (unhide HN).below ((unhide M7).gr ⟨n, os, rfl⟩).1 (unhide HB)
        unfold Node at A C
        have a9 := fun n os => (A n os).2.2.2.2.2.2.2.2.2.1
        have a10 := fun n os => (A n os).2.2.2.2.2.2.2.2.2.2.1
        have a11 := fun n os => (A n os).2.2.2.2.2.2.2.2.2.2.2
        have b9 := fun n os => (C n os).2.2.2.2.2.2.2.2.2.1
        have b10 := fun n os => (C n os).2.2.2.2.2.2.2.2.2.2.1
        have b11 := fun n os => (C n os).2.2.2.2.2.2.2.2.2.2.2
        clear A C
        have K := hide fun n os => addrCompare_any (281470681743360 + rl) (281470681743360 + x2) zp (grow (w7.drewN n) os) ((unhide HZ).below ((unhide M7).gr ⟨n, os, rfl⟩).1)
        have hmo := hmo
        by_cases c : x2 < rl
        · have E := hide (show cmpI (281470681743360 + rl) (281470681743360 + x2) = 1 by unfold cmpI; rw [if_neg (by omega), if_pos (by omega)])
          rw [unhide E] at K
          go_wp2_with fail
          go_quiet_grown (first | (go_at_call 50; refine Calls.grown_of (unhide K _ _)))
          have M8 := hide ((unhide M7).gr ⟨nq, osq, rfl⟩)
          obtain ⟨w8, hw8⟩ : ∃ w8, w8 = grow (w7.drewN nq) osq := ⟨_, rfl⟩
          have a9 := a9 nq osq
          have a10 := a10 nq osq
          have a11 := a11 nq osq
          have b9 := b9 nq osq
          have b10 := b10 nq osq
          have b11 := b11 nq osq
          rw [← hw8] at M8 a9 a10 a11 b9 b10 b11 ⊢
          have hf := (unhide M8).2.2.2
          clear hw8
          go_wp2_with fail
          go_roundg 1
          case measure => rw [unhide HG]; omega
          case rel =>
            refine ⟨1, rfl, by omega, rfl, ?_⟩
            show Mid w zp (x1, x2) (some ⟨B, 0, none⟩) r (1 + sl) (mx x2 rl) _
            rw [show mx x2 rl = rl from if_pos c]
            exact (unhide M8).reach rl
        · have E := hide (show ¬ (0 < cmpI (281470681743360 + rl) (281470681743360 + x2)) by unfold cmpI; split <;> (try split) <;> omega)
          generalize cmpI (281470681743360 + rl) (281470681743360 + x2) = r0 at *
          have hr0 := unhide E
          go_wp2_with fail
          go_quiet_grown (first | (go_at_call 50; refine Calls.grown_of (unhide K _ _)))
          have M8 := hide ((unhide M7).gr ⟨nq, osq, rfl⟩)
          go_wp2_with fail
          go_roundg 1
          case measure => rw [unhide HG]; omega
          case rel =>
            refine ⟨1, rfl, by omega, rfl, ?_⟩
            show Mid w zp (x1, x2) (some ⟨B, 0, none⟩) r (1 + sl) (mx x2 rl) _
            rw [show mx x2 rl = x2 by unfold mx; rw [if_neg (by omega)]]
            exact unhide M8
    · have HX0 := hide (show 0 ≤ mx x2 rl by have := (unhide HX).1; unfold mx; split <;> omega)
      have HM' : Hid (k = 1 → Mid w zp (x1, x2) l r (1 + sl) (mx x2 rl) wr) := (fun e => by have := unhide HM; rw [e] at this; exact this)
      have HM2 : Hid (k = 2 → Mid w zp (x1, x2) l r (1 + sl + sr) (mx (mx x2 rl) rr) wr) := (fun e => by have := unhide HM; rw [e] at this; exact this)
      clear HX
      by_cases k1 : k = 1
      · subst k1
        replace HM := hide (unhide HM' rfl)
        clear HM' HM2
        have HX := HX0
        clear HX0
        obtain ⟨m, em⟩ : ∃ m, m = mx x2 rl := ⟨_, rfl⟩
        rw [← em] at HM HX
        have EM := hide em
        clear em
        rcases unhide HR with ⟨rfl, e1, e2⟩ | ⟨B, y, yl, yr, rfl, hB, hN, hn⟩
        · have E1 := hide e1
          have E2 := hide e2
          clear e1 e2
          have q0 := idx1 l none
          go_wp2_with fail
          go_roundg 0
          case measure => rw [unhide HG]; omega
          case rel =>
            refine ⟨2, rfl, by omega, rfl, ?_⟩
            have hm : Mid w zp (x1, x2) l none (1 + sl) m wr := unhide HM
            show Mid w zp (x1, x2) l none (1 + sl + sr) (mx (mx x2 rl) rr) wr
            rw [← unhide EM]
            rw [unhide E1, unhide E2, mx_neg _ (unhide HX), Int.add_zero]
            exact hm
        · have q0 := idx1 l (some ⟨B, 0, none⟩)
          obtain ⟨m1, m2, m3, m4⟩ : Mid w zp (x1, x2) l (some ⟨B, 0, none⟩) (1 + sl) m wr := unhide HM
          have hN' := hN.below m1 hB
          obtain ⟨h0, h1, h2, h3, h4, h5, h6, h7, h8, h9, h10, h11⟩ := m2
          obtain ⟨-, -, -, -, -, -, -, -, g8, g9, g10, g11⟩ := hN'
          have d1 : ¬ B = w.heap.size + 1 := by omega
          have d2 : ¬ w.heap.size + 1 = B := by omega
          have HM1 := hide m1
          have HM3 := hide m3
          have HN := hide hN
          have Hn := hide hn
          have HB := hide hB
          obtain ⟨s1, s2⟩ := unhide H1
          obtain ⟨s3, s4⟩ := unhide H2
          clear m1 m3 hN hn hB
          go_wp2_with fail
          go_region
          have M7 := hide (((unhide HM : Mid w zp (x1, x2) l (some ⟨B, 0, none⟩) (1 + sl) m wr).size8 (1 + sl + sr)).gr (Gr.refl _).drew)
          obtain ⟨w7, hw7⟩ : ∃ w7, w7 = (wr.setCell ⟨w.heap.size + 1, 8, none⟩ (.int .i64 (1 + sl + sr))).drew := ⟨_, rfl⟩
          rw [← hw7] at M7 ⊢
          clear hw7 h0 h1 h2 h3 h4 h5 h6 h7 h8 h9 h10 h11 g8 g9 g10 g11 m4
          have A := fun n os => ((unhide M7).gr ⟨n, os, rfl⟩).2.1
          have C := fun n os => (unhide HN).below ((unhide M7).gr ⟨n, os, rfl⟩).1 (unhide HB)
          unfold Node at A C
          have a9 := fun n os => (A n os).2.2.2.2.2.2.2.2.2.1
          have a10 := fun n os => (A n os).2.2.2.2.2.2.2.2.2.2.1
          have a11 := fun n os => (A n os).2.2.2.2.2.2.2.2.2.2.2
          have b9 := fun n os => (C n os).2.2.2.2.2.2.2.2.2.1
          have b10 := fun n os => (C n os).2.2.2.2.2.2.2.2.2.2.1
          have b11 := fun n os => (C n os).2.2.2.2.2.2.2.2.2.2.2
          clear A C
          have K := hide fun n os => addrCompare_any (281470681743360 + rr) (281470681743360 + m) zp (grow (w7.drewN n) os) ((unhide HZ).below ((unhide M7).gr ⟨n, os, rfl⟩).1)
          have hmo := hmo
          by_cases c : m < rr
          · have E := hide (show cmpI (281470681743360 + rr) (281470681743360 + m) = 1 by unfold cmpI; rw [if_neg (by omega), if_pos (by omega)])
            rw [unhide E] at K
            go_wp2_with fail
            go_quiet_grown (first | (go_at_call 50; refine Calls.grown_of (unhide K _ _)))
            have M8 := hide ((unhide M7).gr ⟨nq, osq, rfl⟩)
            obtain ⟨w8, hw8⟩ : ∃ w8, w8 = grow (w7.drewN nq) osq := ⟨_, rfl⟩
            have a9 := a9 nq osq
            have a10 := a10 nq osq
            have a11 := a11 nq osq
            have b9 := b9 nq osq
            have b10 := b10 nq osq
            have b11 := b11 nq osq
            rw [← hw8] at M8 a9 a10 a11 b9 b10 b11 ⊢
            have hf := (unhide M8).2.2.2
            clear hw8
            go_wp2_with fail
            go_roundg 0
            case measure => rw [unhide HG]; omega
            case rel =>
              refine ⟨2, rfl, by omega, rfl, ?_⟩
              show Mid w zp (x1, x2) l (some ⟨B, 0, none⟩) (1 + sl + sr) (mx (mx x2 rl) rr) _
              rw [← unhide EM]
              rw [show mx m rr = rr from if_pos c]
              exact (unhide M8).reach rr
          · have E := hide (show ¬ (0 < cmpI (281470681743360 + rr) (281470681743360 + m)) by unfold cmpI; split <;> (try split) <;> omega)
            generalize cmpI (281470681743360 + rr) (281470681743360 + m) = r0 at *
            have hr0 := unhide E
            go_wp2_with fail
            go_quiet_grown (first | (go_at_call 50; refine Calls.grown_of (unhide K _ _)))
            have M8 := hide ((unhide M7).gr ⟨nq, osq, rfl⟩)
            go_wp2_with fail
            go_roundg 0
            case measure => rw [unhide HG]; omega
            case rel =>
              refine ⟨2, rfl, by omega, rfl, ?_⟩
              show Mid w zp (x1, x2) l (some ⟨B, 0, none⟩) (1 + sl + sr) (mx (mx x2 rl) rr) _
              rw [← unhide EM]
              rw [show mx m rr = m by unfold mx; rw [if_neg (by omega)]]
              exact unhide M8
      · obtain rfl : k = 2 := by omega
        have HE := hide (unhide HM2 rfl)
        clear HM HM' HM2
        go_wp2_with fail
        go_ret
        exact ⟨rfl, unhide HE⟩
end Go.Proofs.Qxb6609544aDoor
