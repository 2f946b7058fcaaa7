import Derived.Test.Qxb6612998aFmtSub
namespace Go.Proofs.Qxb6612998aFmt
open Go.RowKit Go.Sort

/-- A difference, held to int64's ends. -/
def satd (x : Int) : Int := if 9223372036854775807 < x then 9223372036854775807 else if x < -9223372036854775808 then -9223372036854775808 else x
def ok64 (a : Int) : Prop := -9223372036854775808 ≤ a ∧ a ≤ 9223372036854775807

theorem satSub_any (a b : Int) (w : World) (ha : ok64 a) (hb : ok64 b) :
    Calls Tryf.prog 21 #[.int .i64 a, .int .i64 b] w fun e w' => e = .returned (.int .i64 (satd (a - b))) ∧ w' = w := by
  obtain ⟨d, hd⟩ : ∃ d, IntKind.i64.wrap (a - b) = d := ⟨_, rfl⟩
  have hd' := hd
  rw [IntKind.wrap_i64] at hd'
  obtain ⟨a1, a2⟩ := ha
  obtain ⟨b1, b2⟩ := hb
  obtain ⟨r, hr⟩ : ∃ r, satd (a - b) = r := ⟨_, rfl⟩
  rw [hr]
  have HR := hide hr
  by_cases c1 : 0 ≤ a ∧ b < 0 ∧ d < 0
  · obtain ⟨x1, x2, x3⟩ := c1
    obtain rfl : r = 9223372036854775807 := by rw [← hr]; unfold satd; rw [if_pos (by omega)]
    clear hr hd' a1 a2 b1 b2
    go_enter Tryf.func21, Tryf.ntmps21
    go_wp2_with fail
    go_ret
    exact ⟨rfl, rfl⟩
  · by_cases c2 : a < 0 ∧ 0 ≤ b ∧ 0 ≤ d
    · obtain ⟨x1, x2, x3⟩ := c2
      obtain rfl : r = -9223372036854775808 := by rw [← hr]; unfold satd; rw [if_neg (by omega), if_pos (by omega)]
      clear hr hd' a1 a2 b1 b2 c1
      go_enter Tryf.func21, Tryf.ntmps21
      go_wp2_with fail
      go_ret
      exact ⟨rfl, rfl⟩
    · obtain rfl : r = d := by rw [← hr]; unfold satd; split <;> (try split) <;> omega
      clear hr hd'
      have C1 := hide c1
      have C2 := hide c2
      clear c1 c2 a1 a2 b1 b2
      go_enter Tryf.func21, Tryf.ntmps21
      by_cases e1 : 0 ≤ a
      · by_cases e2 : b < 0
        · have e3 : ¬ r < 0 := fun h => unhide C1 ⟨e1, e2, h⟩
          go_wp2_with fail
          go_ret
          exact ⟨rfl, rfl⟩
        · go_wp2_with fail
          go_ret
          exact ⟨rfl, rfl⟩
      · by_cases e2 : 0 ≤ b
        · have e3 : r < 0 := by
            rcases Int.lt_or_le r 0 with h | h
            · exact h
            · exact absurd ⟨by omega, e2, h⟩ (unhide C2)
          go_wp2_with fail
          go_ret
          exact ⟨rfl, rfl⟩
        · go_wp2_with fail
          go_ret
          exact ⟨rfl, rfl⟩

set_option maxHeartbeats 2000000 in
set_option maxRecDepth 10000 in
theorem sub_any (n1 s1 n2 s2 : Int) (w : World) (h1 : okN n1) (h2 : okN n2) (ha : ok64 (s1 * 1000000000 + n1)) (hb : ok64 (s2 * 1000000000 + n2)) :
    Calls Tryf.prog 46 #[.agg #[.int .u64 n1, .int .i64 s1, .pointer none], .agg #[.int .u64 n2, .int .i64 s2, .pointer none]] w fun e w' => e = .returned (.int .i64 (satd (s1 * 1000000000 + n1 - (s2 * 1000000000 + n2)))) ∧ Gr w w' := by
  obtain ⟨c, a1, a2⟩ := and_two n1 n2 h1 h2
  obtain ⟨t1, t2, t3, t4⟩ := two_sec w n1 s1 n2 s2 h1 h2
  unfold Two at t1 t2 t3 t4
  have K54a := hide t1
  have K54b := hide t2
  have K41a := hide t3
  have K41b := hide t4
  obtain ⟨X, hX⟩ : ∃ X, IntKind.i64.wrap ((s1 - s2) * 1000000000) = X := ⟨_, rfl⟩
  obtain ⟨d, hd⟩ : ∃ d, IntKind.i64.wrap (X + (n1 - n2)) = d := ⟨_, rfl⟩
  have hX' := hX
  have hd' := hd
  rw [IntKind.wrap_i64] at hX' hd'
  obtain ⟨p1, p2⟩ := h1
  obtain ⟨p3, p4⟩ := h2
  obtain ⟨q1, q2⟩ := ha
  obtain ⟨q3, q4⟩ := hb
  have y1 : IntKind.i64.wrap (s1 - s2) = s1 - s2 := by rw [IntKind.wrap_i64]; omega
  have y3 : IntKind.i32.wrap (n1 - n2) = n1 - n2 := by rw [IntKind.wrap_i32]; omega
  obtain ⟨n3, hn3⟩ : ∃ n3, (n2 + d) % 1000000000 = n3 := ⟨_, rfl⟩
  obtain ⟨s3, hs3⟩ : ∃ s3, s2 + (n2 + d) / 1000000000 = s3 := ⟨_, rfl⟩
  have o3 : okN n3 := ⟨by omega, by omega⟩
  have K30 : Hid (∀ W, Calls Tryf.prog 30 #[.agg #[.int .u64 n2, .int .i64 s2, .pointer none], .int .i64 d] W fun e w' => e = .returned (.agg #[.int .u64 n3, .int .i64 s3, .pointer none]) ∧ ∃ q os, w' = grow (W.drewN q) os) := fun W => by
    have h := add_any n2 s2 d W ⟨p3, p4⟩ (by omega) (by omega) (by omega)
    rw [hn3, hs3] at h; exact h
  have K56 : Hid (∀ W r, r = decide (s3 = s1 ∧ n3 = n1) → Calls Tryf.prog 56 #[.agg #[.int .u64 n3, .int .i64 s3, .pointer none], .agg #[.int .u64 n1, .int .i64 s1, .pointer none]] W fun e w' => e = .returned (.bool r) ∧ ∃ q os, w' = grow (W.drewN q) os) := fun W r hr => equal_any n3 s3 n1 s1 W o3 ⟨p1, p2⟩ r hr
  have K57 : Hid (∀ W r, r = decide (s1 < s2 ∨ (s1 = s2 ∧ n1 < n2)) → Calls Tryf.prog 57 #[.agg #[.int .u64 n1, .int .i64 s1, .pointer none], .agg #[.int .u64 n2, .int .i64 s2, .pointer none]] W fun e w' => e = .returned (.bool r) ∧ Gr W w') := fun W r hr => before_any n1 s1 n2 s2 W ⟨p1, p2⟩ ⟨p3, p4⟩ r hr
  have hg : ∀ n os, (grow ((Two w n1 s1 n2 s2).drewN n) os).cell? ⟨w.heap.size, 0, none⟩ = some (.int .u64 n1) ∧ (grow ((Two w n1 s1 n2 s2).drewN n) os).cell? ⟨w.heap.size, 1, none⟩ = some (.int .i64 s1) ∧ (grow ((Two w n1 s1 n2 s2).drewN n) os).cell? ⟨w.heap.size, 2, none⟩ = some (.pointer none) ∧ (grow ((Two w n1 s1 n2 s2).drewN n) os).cell? ⟨w.heap.size + 1, 0, none⟩ = some (.int .u64 n2) ∧ (grow ((Two w n1 s1 n2 s2).drewN n) os).cell? ⟨w.heap.size + 1, 1, none⟩ = some (.int .i64 s2) ∧ (grow ((Two w n1 s1 n2 s2).drewN n) os).cell? ⟨w.heap.size + 1, 2, none⟩ = some (.pointer none) := fun n os => by
    have hs : (Two w n1 s1 n2 s2).heap.size = w.heap.size + 2 := by simp [Two]
    refine ⟨?_, ?_, ?_, ?_, ?_, ?_⟩ <;> exact cell_grown (by rw [hs]; simp) (by simp [Two]) n os
  unfold Two at hg
  have y5 : IntKind.i64.wrap (n1 - n2) = n1 - n2 := by rw [IntKind.wrap_i64]; omega
  have hg0 := fun n os => (hg n os).1
  have hg1 := fun n os => (hg n os).2.1
  have hg2 := fun n os => (hg n os).2.2.1
  have hg3 := fun n os => (hg n os).2.2.2.1
  have hg4 := fun n os => (hg n os).2.2.2.2.1
  have hg5 := fun n os => (hg n os).2.2.2.2.2
  have hmo := hmo
  obtain ⟨D, hD⟩ : ∃ D, s1 * 1000000000 + n1 - (s2 * 1000000000 + n2) = D := ⟨_, rfl⟩
  rw [hD]
  by_cases cr : -9223372036854775808 ≤ D ∧ D ≤ 9223372036854775807
  · have hdD : d = D := by omega
    have hr : Hid (true = decide (s3 = s1 ∧ n3 = n1)) := (decide_eq_true ⟨by omega, by omega⟩).symm
    have HS : Hid (satd D = d) := by show satd D = d; unfold satd; rw [if_neg (by omega), if_neg (by omega), hdD]
    rw [unhide HS]
    clear hg t1 t2 t3 t4 hX' hd' p1 p2 p3 p4 q1 q2 q3 q4 hn3 hs3 o3 hD cr hdD
    go_enter Tryf.func46, Tryf.ntmps46
    go_wp2_with (first
      | (go_at_call 54; (first | with_reducible refine Calls.mono (unhide K54a) ?_ | with_reducible refine Calls.mono (unhide K54b) ?_); rintro e w8 ⟨rfl, hw8⟩; subst hw8)
      | (go_at_call 41; (first | with_reducible refine Calls.mono (unhide K41a) ?_ | with_reducible refine Calls.mono (unhide K41b) ?_); rintro e w8 ⟨rfl, hw8⟩; subst hw8))
    go_quiet_grown (first | (go_at_call 30; refine Calls.grown_of (unhide K30 _)) | (go_at_call 56; refine Calls.grown_of (unhide K56 _ _ (unhide hr))))
    have HG := hide ((((Gr.refl w).alloc (.cells #[.int .u64 n1, .int .i64 s1, .pointer none] 92)).alloc (.cells #[.int .u64 n2, .int .i64 s2, .pointer none] 92)).trans ⟨nq, osq, rfl⟩)
    go_wp2_with fail
    go_ret
    exact ⟨rfl, unhide HG⟩
  · have hr : Hid (false = decide (s3 = s1 ∧ n3 = n1)) := (decide_eq_false (fun h => by obtain ⟨z1, z2⟩ := h; omega)).symm
    by_cases cs : D < 0
    · have hb : Hid (true = decide (s1 < s2 ∨ (s1 = s2 ∧ n1 < n2))) := (decide_eq_true (by omega)).symm
      have HS : Hid (satd D = -9223372036854775808) := by show satd D = _; unfold satd; rw [if_neg (by omega), if_pos (by omega)]
      rw [unhide HS]
      clear hg t1 t2 t3 t4 hX' hd' p1 p2 p3 p4 q1 q2 q3 q4 hn3 hs3 o3 hD cr cs
      go_enter Tryf.func46, Tryf.ntmps46
      go_wp2_with (first
      | (go_at_call 54; (first | with_reducible refine Calls.mono (unhide K54a) ?_ | with_reducible refine Calls.mono (unhide K54b) ?_); rintro e w8 ⟨rfl, hw8⟩; subst hw8)
      | (go_at_call 41; (first | with_reducible refine Calls.mono (unhide K41a) ?_ | with_reducible refine Calls.mono (unhide K41b) ?_); rintro e w8 ⟨rfl, hw8⟩; subst hw8))
      go_quiet_grown (first | (go_at_call 30; refine Calls.grown_of (unhide K30 _)) | (go_at_call 56; refine Calls.grown_of (unhide K56 _ _ (unhide hr))))
      have HG := hide ((((Gr.refl w).alloc (.cells #[.int .u64 n1, .int .i64 s1, .pointer none] 92)).alloc (.cells #[.int .u64 n2, .int .i64 s2, .pointer none] 92)).trans ⟨nq, osq, rfl⟩)
      go_wp2_with fail
      refine Calls.mono (unhide K57 _ _ (unhide hb)) ?_
      rintro e w9 ⟨rfl, g9⟩
      replace g9 := hide g9
      go_wp2_with fail
      go_ret
      exact ⟨rfl, (unhide HG).trans (unhide g9)⟩
    · have hb : Hid (false = decide (s1 < s2 ∨ (s1 = s2 ∧ n1 < n2))) := (decide_eq_false (fun h => by rcases h with h | ⟨h, h'⟩ <;> omega)).symm
      have HS : Hid (satd D = 9223372036854775807) := by show satd D = _; unfold satd; rw [if_pos (by omega)]
      rw [unhide HS]
      clear hg t1 t2 t3 t4 hX' hd' p1 p2 p3 p4 q1 q2 q3 q4 hn3 hs3 o3 hD cr cs
      go_enter Tryf.func46, Tryf.ntmps46
      go_wp2_with (first
      | (go_at_call 54; (first | with_reducible refine Calls.mono (unhide K54a) ?_ | with_reducible refine Calls.mono (unhide K54b) ?_); rintro e w8 ⟨rfl, hw8⟩; subst hw8)
      | (go_at_call 41; (first | with_reducible refine Calls.mono (unhide K41a) ?_ | with_reducible refine Calls.mono (unhide K41b) ?_); rintro e w8 ⟨rfl, hw8⟩; subst hw8))
      go_quiet_grown (first | (go_at_call 30; refine Calls.grown_of (unhide K30 _)) | (go_at_call 56; refine Calls.grown_of (unhide K56 _ _ (unhide hr))))
      have HG := hide ((((Gr.refl w).alloc (.cells #[.int .u64 n1, .int .i64 s1, .pointer none] 92)).alloc (.cells #[.int .u64 n2, .int .i64 s2, .pointer none] 92)).trans ⟨nq, osq, rfl⟩)
      go_wp2_with fail
      refine Calls.mono (unhide K57 _ _ (unhide hb)) ?_
      rintro e w9 ⟨rfl, g9⟩
      replace g9 := hide g9
      go_wp2_with fail
      go_ret
      exact ⟨rfl, (unhide HG).trans (unhide g9)⟩
end Go.Proofs.Qxb6612998aFmt
