import Derived.Test.Qxb6609544aDoorEnt
namespace Go.Proofs.Qxb6609544aDoor
open Go.RowKit Go.Sort

set_option maxHeartbeats 2000000 in
set_option maxRecDepth 10000 in
theorem cmp4_bytes (a0 a1 a2 a3 b0 b1 b2 b3 : Int) (ha0 : 0 ≤ a0 ∧ a0 ≤ 255) (ha1 : 0 ≤ a1 ∧ a1 ≤ 255) (ha2 : 0 ≤ a2 ∧ a2 ≤ 255) (ha3 : 0 ≤ a3 ∧ a3 ≤ 255) (hb0 : 0 ≤ b0 ∧ b0 ≤ 255) (hb1 : 0 ≤ b1 ∧ b1 ≤ 255) (hb2 : 0 ≤ b2 ∧ b2 ≤ 255) (hb3 : 0 ≤ b3 ∧ b3 ≤ 255) (w : World) :
    Calls Tryd.prog 25 #[.agg #[.int .u8 a0, .int .u8 a1, .int .u8 a2, .int .u8 a3], .agg #[.int .u8 b0, .int .u8 b1, .int .u8 b2, .int .u8 b3]] w fun e w' => e = .returned (.int .i64 (cmpI (num a0 a1 a2 a3) (num b0 b1 b2 b3))) ∧ ∃ q os, w' = grow (w.drewN q) os := by
  have Ha0 := hide ha0
  have Ha1 := hide ha1
  have Ha2 := hide ha2
  have Ha3 := hide ha3
  have Hb0 := hide hb0
  have Hb1 := hide hb1
  have Hb2 := hide hb2
  have Hb3 := hide hb3
  clear ha0 ha1 ha2 ha3 hb0 hb1 hb2 hb3
  go_enter Tryd.func25, Tryd.ntmps25
  go_wp2_with fail
  go_loopg [5] 4 (fun g kv w' => ∃ k q : Nat, g = 4 - k ∧ k ≤ 4 ∧ kv = .int .i64 k ∧ Hid ((0 < k → a0 = b0) ∧ (1 < k → a1 = b1) ∧ (2 < k → a2 = b2) ∧ (3 < k → a3 = b3)) ∧ w' = ((w.alloc (.cells #[.int .u8 a0, .int .u8 a1, .int .u8 a2, .int .u8 a3] 35)).alloc (.cells #[.int .u8 b0, .int .u8 b1, .int .u8 b2, .int .u8 b3] 35)).drewN q)
  case atStart => exact ⟨0, 0, rfl, by omega, rfl, ⟨by omega, by omega, by omega, by omega⟩, rfl⟩
  case round =>
    obtain ⟨k, q, hg, hk, rfl, HK, rfl⟩ := hrel
    have HG := hide hg
    clear hg
    by_cases k0 : k = 0
    · subst k0
      obtain ⟨E0, E1, E2, E3⟩ := unhide HK
      skip
      clear E0 E1 E2 E3 HK
      by_cases c1 : a0 < b0
      · have HE : Hid (cmpI (num a0 a1 a2 a3) (num b0 b1 b2 b3) = -1) := by
          show cmpI _ _ = _
          have := unhide Ha0; have := unhide Ha1; have := unhide Ha2; have := unhide Ha3; have := unhide Hb0; have := unhide Hb1; have := unhide Hb2; have := unhide Hb3
          unfold cmpI num; rw [if_pos (by omega)]
        go_wp2_with fail
        go_quiet (fail)
        go_wp2_with fail
        go_ret
        exact ⟨ret_int (unhide HE).symm, by first | exact (((Gr.refl _).alloc _).alloc _).drewN _ | exact ((((Gr.refl _).alloc _).alloc _).drewN _).drewN _ | exact (((((Gr.refl _).alloc _).alloc _).drewN _).drewN _).drewN _⟩
      · by_cases c2 : b0 < a0
        · have HE : Hid (cmpI (num a0 a1 a2 a3) (num b0 b1 b2 b3) = 1) := by
            show cmpI _ _ = _
            have := unhide Ha0; have := unhide Ha1; have := unhide Ha2; have := unhide Ha3; have := unhide Hb0; have := unhide Hb1; have := unhide Hb2; have := unhide Hb3
            unfold cmpI num; rw [if_neg (by omega), if_pos (by omega)]
          go_wp2_with fail
          go_quiet (fail)
          go_wp2_with fail
          go_quiet (fail)
          go_wp2_with fail
          go_ret
          exact ⟨ret_int (unhide HE).symm, by first | exact (((Gr.refl _).alloc _).alloc _).drewN _ | exact ((((Gr.refl _).alloc _).alloc _).drewN _).drewN _ | exact (((((Gr.refl _).alloc _).alloc _).drewN _).drewN _).drewN _⟩
        · have HQ := hide (show a0 = b0 by omega)
          go_wp2_with fail
          go_quiet (fail)
          go_wp2_with fail
          go_quiet (fail)
          go_wp2_with fail
          go_roundg 3
          case measure => rw [unhide HG]; omega
          case rel => exact ⟨1, _, rfl, by omega, rfl, ⟨fun _ => unhide HQ, by omega, by omega, by omega⟩, rfl⟩
    by_cases k1 : k = 1
    · subst k1
      obtain ⟨E0, E1, E2, E3⟩ := unhide HK
      replace E0 := E0 (by omega)
      clear E1 E2 E3 HK
      replace E0 := hide E0
      by_cases c1 : a1 < b1
      · have HE : Hid (cmpI (num a0 a1 a2 a3) (num b0 b1 b2 b3) = -1) := by
          show cmpI _ _ = _
          have := unhide Ha0; have := unhide Ha1; have := unhide Ha2; have := unhide Ha3; have := unhide Hb0; have := unhide Hb1; have := unhide Hb2; have := unhide Hb3; have := unhide E0
          unfold cmpI num; rw [if_pos (by omega)]
        go_wp2_with fail
        go_quiet (fail)
        go_wp2_with fail
        go_ret
        exact ⟨ret_int (unhide HE).symm, by first | exact (((Gr.refl _).alloc _).alloc _).drewN _ | exact ((((Gr.refl _).alloc _).alloc _).drewN _).drewN _ | exact (((((Gr.refl _).alloc _).alloc _).drewN _).drewN _).drewN _⟩
      · by_cases c2 : b1 < a1
        · have HE : Hid (cmpI (num a0 a1 a2 a3) (num b0 b1 b2 b3) = 1) := by
            show cmpI _ _ = _
            have := unhide Ha0; have := unhide Ha1; have := unhide Ha2; have := unhide Ha3; have := unhide Hb0; have := unhide Hb1; have := unhide Hb2; have := unhide Hb3; have := unhide E0
            unfold cmpI num; rw [if_neg (by omega), if_pos (by omega)]
          go_wp2_with fail
          go_quiet (fail)
          go_wp2_with fail
          go_quiet (fail)
          go_wp2_with fail
          go_ret
          exact ⟨ret_int (unhide HE).symm, by first | exact (((Gr.refl _).alloc _).alloc _).drewN _ | exact ((((Gr.refl _).alloc _).alloc _).drewN _).drewN _ | exact (((((Gr.refl _).alloc _).alloc _).drewN _).drewN _).drewN _⟩
        · have HQ := hide (show a1 = b1 by omega)
          go_wp2_with fail
          go_quiet (fail)
          go_wp2_with fail
          go_quiet (fail)
          go_wp2_with fail
          go_roundg 2
          case measure => rw [unhide HG]; omega
          case rel => exact ⟨2, _, rfl, by omega, rfl, ⟨fun _ => unhide E0, fun _ => unhide HQ, by omega, by omega⟩, rfl⟩
    by_cases k2 : k = 2
    · subst k2
      obtain ⟨E0, E1, E2, E3⟩ := unhide HK
      replace E0 := E0 (by omega); replace E1 := E1 (by omega)
      clear E2 E3 HK
      replace E0 := hide E0
      replace E1 := hide E1
      by_cases c1 : a2 < b2
      · have HE : Hid (cmpI (num a0 a1 a2 a3) (num b0 b1 b2 b3) = -1) := by
          show cmpI _ _ = _
          have := unhide Ha0; have := unhide Ha1; have := unhide Ha2; have := unhide Ha3; have := unhide Hb0; have := unhide Hb1; have := unhide Hb2; have := unhide Hb3; have := unhide E0; have := unhide E1
          unfold cmpI num; rw [if_pos (by omega)]
        go_wp2_with fail
        go_quiet (fail)
        go_wp2_with fail
        go_ret
        exact ⟨ret_int (unhide HE).symm, by first | exact (((Gr.refl _).alloc _).alloc _).drewN _ | exact ((((Gr.refl _).alloc _).alloc _).drewN _).drewN _ | exact (((((Gr.refl _).alloc _).alloc _).drewN _).drewN _).drewN _⟩
      · by_cases c2 : b2 < a2
        · have HE : Hid (cmpI (num a0 a1 a2 a3) (num b0 b1 b2 b3) = 1) := by
            show cmpI _ _ = _
            have := unhide Ha0; have := unhide Ha1; have := unhide Ha2; have := unhide Ha3; have := unhide Hb0; have := unhide Hb1; have := unhide Hb2; have := unhide Hb3; have := unhide E0; have := unhide E1
            unfold cmpI num; rw [if_neg (by omega), if_pos (by omega)]
          go_wp2_with fail
          go_quiet (fail)
          go_wp2_with fail
          go_quiet (fail)
          go_wp2_with fail
          go_ret
          exact ⟨ret_int (unhide HE).symm, by first | exact (((Gr.refl _).alloc _).alloc _).drewN _ | exact ((((Gr.refl _).alloc _).alloc _).drewN _).drewN _ | exact (((((Gr.refl _).alloc _).alloc _).drewN _).drewN _).drewN _⟩
        · have HQ := hide (show a2 = b2 by omega)
          go_wp2_with fail
          go_quiet (fail)
          go_wp2_with fail
          go_quiet (fail)
          go_wp2_with fail
          go_roundg 1
          case measure => rw [unhide HG]; omega
          case rel => exact ⟨3, _, rfl, by omega, rfl, ⟨fun _ => unhide E0, fun _ => unhide E1, fun _ => unhide HQ, by omega⟩, rfl⟩
    by_cases k3 : k = 3
    · subst k3
      obtain ⟨E0, E1, E2, E3⟩ := unhide HK
      replace E0 := E0 (by omega); replace E1 := E1 (by omega); replace E2 := E2 (by omega)
      clear E3 HK
      replace E0 := hide E0
      replace E1 := hide E1
      replace E2 := hide E2
      by_cases c1 : a3 < b3
      · have HE : Hid (cmpI (num a0 a1 a2 a3) (num b0 b1 b2 b3) = -1) := by
          show cmpI _ _ = _
          have := unhide Ha0; have := unhide Ha1; have := unhide Ha2; have := unhide Ha3; have := unhide Hb0; have := unhide Hb1; have := unhide Hb2; have := unhide Hb3; have := unhide E0; have := unhide E1; have := unhide E2
          unfold cmpI num; rw [if_pos (by omega)]
        go_wp2_with fail
        go_quiet (fail)
        go_wp2_with fail
        go_ret
        exact ⟨ret_int (unhide HE).symm, by first | exact (((Gr.refl _).alloc _).alloc _).drewN _ | exact ((((Gr.refl _).alloc _).alloc _).drewN _).drewN _ | exact (((((Gr.refl _).alloc _).alloc _).drewN _).drewN _).drewN _⟩
      · by_cases c2 : b3 < a3
        · have HE : Hid (cmpI (num a0 a1 a2 a3) (num b0 b1 b2 b3) = 1) := by
            show cmpI _ _ = _
            have := unhide Ha0; have := unhide Ha1; have := unhide Ha2; have := unhide Ha3; have := unhide Hb0; have := unhide Hb1; have := unhide Hb2; have := unhide Hb3; have := unhide E0; have := unhide E1; have := unhide E2
            unfold cmpI num; rw [if_neg (by omega), if_pos (by omega)]
          go_wp2_with fail
          go_quiet (fail)
          go_wp2_with fail
          go_quiet (fail)
          go_wp2_with fail
          go_ret
          exact ⟨ret_int (unhide HE).symm, by first | exact (((Gr.refl _).alloc _).alloc _).drewN _ | exact ((((Gr.refl _).alloc _).alloc _).drewN _).drewN _ | exact (((((Gr.refl _).alloc _).alloc _).drewN _).drewN _).drewN _⟩
        · have HQ := hide (show a3 = b3 by omega)
          go_wp2_with fail
          go_quiet (fail)
          go_wp2_with fail
          go_quiet (fail)
          go_wp2_with fail
          go_roundg 0
          case measure => rw [unhide HG]; omega
          case rel => exact ⟨4, _, rfl, by omega, rfl, ⟨fun _ => unhide E0, fun _ => unhide E1, fun _ => unhide E2, fun _ => unhide HQ⟩, rfl⟩
    obtain rfl : k = 4 := by omega
    obtain ⟨E0, E1, E2, E3⟩ := unhide HK
    have HE : Hid (cmpI (num a0 a1 a2 a3) (num b0 b1 b2 b3) = 0) := by
      show cmpI _ _ = _
      rw [E0 (by omega), E1 (by omega), E2 (by omega), E3 (by omega)]
      unfold cmpI; rw [if_neg (by omega), if_neg (by omega)]
    clear E0 E1 E2 E3 HK
    go_wp2_with fail
    go_ret
    exact ⟨ret_int (unhide HE).symm, by first | exact (((Gr.refl _).alloc _).alloc _).drewN _ | exact ((((Gr.refl _).alloc _).alloc _).drewN _).drewN _ | exact (((((Gr.refl _).alloc _).alloc _).drewN _).drewN _).drewN _⟩

theorem cmp4_any (x y : Int) (hx : isN x) (hy : isN y) (w : World) :
    Calls Tryd.prog 25 #[.agg (arr4 x).toArray, .agg (arr4 y).toArray] w fun e w' => e = .returned (.int .i64 (cmpI x y)) ∧ ∃ q os, w' = grow (w.drewN q) os := by
  obtain ⟨p0, p1, p2, p3⟩ := byte_le x hx
  obtain ⟨q0, q1, q2, q3⟩ := byte_le y hy
  have h := cmp4_bytes _ _ _ _ _ _ _ _ p0 p1 p2 p3 q0 q1 q2 q3 w
  rw [num_bytes x hx, num_bytes y hy] at h
  exact h
end Go.Proofs.Qxb6609544aDoor
