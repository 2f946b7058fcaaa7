import Derived.Test.Qxb6612998aFmtTime
namespace Go.Proofs.Qxb6612998aFmt
open Go.RowKit Go.Sort

theorem and_two (a b : Int) (ha : okN a) (hb : okN b) : ∃ c, bits BinOp.and IntKind.u64 a b = c ∧ bits BinOp.and IntKind.u64 c 9223372036854775808 = 0 := by
  obtain ⟨h0, h1⟩ := ha
  obtain ⟨h2, h3⟩ := hb
  obtain ⟨a, rfl⟩ := Int.eq_ofNat_of_zero_le h0
  obtain ⟨b, rfl⟩ := Int.eq_ofNat_of_zero_le h2
  have hle : a &&& b ≤ a := Nat.and_le_left
  refine ⟨((a &&& b : Nat) : Int), bits_and_u64_nat a b (by omega) (by omega), and_mono _ (by omega) (by omega)⟩

/-- The two boxed times, and what nsec and sec answer there. -/
def Two (w : World) (n1 s1 n2 s2 : Int) : World := (w.alloc (.cells #[.int .u64 n1, .int .i64 s1, .pointer none] 92)).alloc (.cells #[.int .u64 n2, .int .i64 s2, .pointer none] 92)
theorem two_sec (w : World) (n1 s1 n2 s2 : Int) (h1 : okN n1) (h2 : okN n2) :
    (Calls Tryf.prog 54 #[.pointer (some ⟨w.heap.size, 0, none⟩)] (Two w n1 s1 n2 s2) fun e w' => e = .returned (.int .i64 s1) ∧ w' = Two w n1 s1 n2 s2) ∧
    (Calls Tryf.prog 54 #[.pointer (some ⟨w.heap.size + 1, 0, none⟩)] (Two w n1 s1 n2 s2) fun e w' => e = .returned (.int .i64 s2) ∧ w' = Two w n1 s1 n2 s2) ∧
    (Calls Tryf.prog 41 #[.pointer (some ⟨w.heap.size, 0, none⟩)] (Two w n1 s1 n2 s2) fun e w' => e = .returned (.int .i32 n1) ∧ w' = Two w n1 s1 n2 s2) ∧
    (Calls Tryf.prog 41 #[.pointer (some ⟨w.heap.size + 1, 0, none⟩)] (Two w n1 s1 n2 s2) fun e w' => e = .returned (.int .i32 n2) ∧ w' = Two w n1 s1 n2 s2) :=
  ⟨sec_any _ n1 s1 _ h1 (by simp [Two]) (by simp [Two]), sec_any _ n2 s2 _ h2 (by simp [Two]) (by simp [Two]), nsec_any _ n1 _ h1 (by simp [Two]), nsec_any _ n2 _ h2 (by simp [Two])⟩

set_option maxHeartbeats 1000000 in
theorem equal_any (n1 s1 n2 s2 : Int) (w : World) (h1 : okN n1) (h2 : okN n2) (r : Bool) (hr : r = decide (s1 = s2 ∧ n1 = n2)) :
    Calls Tryf.prog 56 #[.agg #[.int .u64 n1, .int .i64 s1, .pointer none], .agg #[.int .u64 n2, .int .i64 s2, .pointer none]] w fun e w' => e = .returned (.bool r) ∧ Gr w w' := by
  obtain ⟨c, a1, a2⟩ := and_two n1 n2 h1 h2
  obtain ⟨t1, t2, t3, t4⟩ := two_sec w n1 s1 n2 s2 h1 h2
  unfold Two at t1 t2 t3 t4
  have K54a := hide t1
  have K54b := hide t2
  have K41a := hide t3
  have K41b := hide t4
  have HR := hide hr
  clear h1 h2 hr t1 t2 t3 t4
  by_cases c1 : s1 = s2
  · subst c1
    by_cases c2 : n1 = n2
    · subst c2
      obtain rfl : r = true := (unhide HR).trans (decide_eq_true ⟨rfl, rfl⟩)
      go_enter Tryf.func56, Tryf.ntmps56
      go_wp2_with (first
      | (go_at_call 54; (first | with_reducible refine Calls.mono (unhide K54a) ?_ | with_reducible refine Calls.mono (unhide K54b) ?_); rintro e w8 ⟨rfl, hw8⟩; subst hw8)
      | (go_at_call 41; (first | with_reducible refine Calls.mono (unhide K41a) ?_ | with_reducible refine Calls.mono (unhide K41b) ?_); rintro e w8 ⟨rfl, hw8⟩; subst hw8))
      go_ret
      exact ⟨by first | rfl | (simp; done) | (simp; omega), ((Gr.refl _).alloc _).alloc _⟩
    · obtain rfl : r = false := (unhide HR).trans (decide_eq_false (fun h => c2 h.2))
      go_enter Tryf.func56, Tryf.ntmps56
      go_wp2_with (first
      | (go_at_call 54; (first | with_reducible refine Calls.mono (unhide K54a) ?_ | with_reducible refine Calls.mono (unhide K54b) ?_); rintro e w8 ⟨rfl, hw8⟩; subst hw8)
      | (go_at_call 41; (first | with_reducible refine Calls.mono (unhide K41a) ?_ | with_reducible refine Calls.mono (unhide K41b) ?_); rintro e w8 ⟨rfl, hw8⟩; subst hw8))
      go_ret
      exact ⟨by first | rfl | (simp; done) | (simp; omega), ((Gr.refl _).alloc _).alloc _⟩
  · obtain rfl : r = false := (unhide HR).trans (decide_eq_false (fun h => c1 h.1))
    go_enter Tryf.func56, Tryf.ntmps56
    go_wp2_with (first
      | (go_at_call 54; (first | with_reducible refine Calls.mono (unhide K54a) ?_ | with_reducible refine Calls.mono (unhide K54b) ?_); rintro e w8 ⟨rfl, hw8⟩; subst hw8)
      | (go_at_call 41; (first | with_reducible refine Calls.mono (unhide K41a) ?_ | with_reducible refine Calls.mono (unhide K41b) ?_); rintro e w8 ⟨rfl, hw8⟩; subst hw8))
    go_ret
    exact ⟨by first | rfl | (simp; done) | (simp; omega), ((Gr.refl _).alloc _).alloc _⟩

set_option maxHeartbeats 1000000 in
theorem before_any (n1 s1 n2 s2 : Int) (w : World) (h1 : okN n1) (h2 : okN n2) (r : Bool) (hr : r = decide (s1 < s2 ∨ (s1 = s2 ∧ n1 < n2))) :
    Calls Tryf.prog 57 #[.agg #[.int .u64 n1, .int .i64 s1, .pointer none], .agg #[.int .u64 n2, .int .i64 s2, .pointer none]] w fun e w' => e = .returned (.bool r) ∧ Gr w w' := by
  obtain ⟨c, a1, a2⟩ := and_two n1 n2 h1 h2
  obtain ⟨t1, t2, t3, t4⟩ := two_sec w n1 s1 n2 s2 h1 h2
  unfold Two at t1 t2 t3 t4
  have K54a := hide t1
  have K54b := hide t2
  have K41a := hide t3
  have K41b := hide t4
  have HR := hide hr
  clear h1 h2 hr t1 t2 t3 t4
  by_cases c0 : s1 < s2
  · obtain rfl : r = true := (unhide HR).trans (decide_eq_true (Or.inl c0))
    go_enter Tryf.func57, Tryf.ntmps57
    go_wp2_with (first
      | (go_at_call 54; (first | with_reducible refine Calls.mono (unhide K54a) ?_ | with_reducible refine Calls.mono (unhide K54b) ?_); rintro e w8 ⟨rfl, hw8⟩; subst hw8)
      | (go_at_call 41; (first | with_reducible refine Calls.mono (unhide K41a) ?_ | with_reducible refine Calls.mono (unhide K41b) ?_); rintro e w8 ⟨rfl, hw8⟩; subst hw8))
    go_ret
    exact ⟨by first | rfl | (simp; done) | (simp; omega), ((Gr.refl _).alloc _).alloc _⟩
  · by_cases c1 : s1 = s2
    · subst c1
      by_cases c2 : n1 < n2
      · obtain rfl : r = true := (unhide HR).trans (decide_eq_true (Or.inr ⟨rfl, c2⟩))
        go_enter Tryf.func57, Tryf.ntmps57
        go_wp2_with (first
      | (go_at_call 54; (first | with_reducible refine Calls.mono (unhide K54a) ?_ | with_reducible refine Calls.mono (unhide K54b) ?_); rintro e w8 ⟨rfl, hw8⟩; subst hw8)
      | (go_at_call 41; (first | with_reducible refine Calls.mono (unhide K41a) ?_ | with_reducible refine Calls.mono (unhide K41b) ?_); rintro e w8 ⟨rfl, hw8⟩; subst hw8))
        go_ret
        exact ⟨by first | rfl | (simp; done) | (simp; omega), ((Gr.refl _).alloc _).alloc _⟩
      · obtain rfl : r = false := (unhide HR).trans (decide_eq_false (fun h => by rcases h with h | h; omega; exact c2 h.2))
        go_enter Tryf.func57, Tryf.ntmps57
        go_wp2_with (first
      | (go_at_call 54; (first | with_reducible refine Calls.mono (unhide K54a) ?_ | with_reducible refine Calls.mono (unhide K54b) ?_); rintro e w8 ⟨rfl, hw8⟩; subst hw8)
      | (go_at_call 41; (first | with_reducible refine Calls.mono (unhide K41a) ?_ | with_reducible refine Calls.mono (unhide K41b) ?_); rintro e w8 ⟨rfl, hw8⟩; subst hw8))
        go_ret
        exact ⟨by first | rfl | (simp; done) | (simp; omega), ((Gr.refl _).alloc _).alloc _⟩
    · obtain rfl : r = false := (unhide HR).trans (decide_eq_false (fun h => by rcases h with h | h; exact c0 h; exact c1 h.1))
      go_enter Tryf.func57, Tryf.ntmps57
      go_wp2_with (first
      | (go_at_call 54; (first | with_reducible refine Calls.mono (unhide K54a) ?_ | with_reducible refine Calls.mono (unhide K54b) ?_); rintro e w8 ⟨rfl, hw8⟩; subst hw8)
      | (go_at_call 41; (first | with_reducible refine Calls.mono (unhide K41a) ?_ | with_reducible refine Calls.mono (unhide K41b) ?_); rintro e w8 ⟨rfl, hw8⟩; subst hw8))
      go_ret
      exact ⟨by first | rfl | (simp; done) | (simp; omega), ((Gr.refl _).alloc _).alloc _⟩
end Go.Proofs.Qxb6612998aFmt
