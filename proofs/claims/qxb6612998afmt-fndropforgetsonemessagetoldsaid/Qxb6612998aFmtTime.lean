import Derived.Test.Qxb6612998aFmtKit
import Derived.Laws.BitsAllLaws
namespace Go.Proofs.Qxb6612998aFmt
open Go.RowKit Go.Sort

theorem and_mask (n : Int) (h0 : 0 ≤ n) (h1 : n < 1073741824) : bits BinOp.and IntKind.u64 n 1073741823 = n := by
  obtain ⟨n, rfl⟩ := Int.eq_ofNat_of_zero_le h0
  have := bits_and_u64_nat n 1073741823 (by omega) (by omega)
  rw [show ((1073741823 : Nat) : Int) = 1073741823 from rfl] at this
  rw [this, show (1073741823 : Nat) = 2 ^ 30 - 1 from rfl, Nat.and_two_pow_sub_one_eq_mod, Nat.mod_eq_of_lt (by omega)]
theorem and_mono (n : Int) (h0 : 0 ≤ n) (h1 : n < 1073741824) : bits BinOp.and IntKind.u64 n 9223372036854775808 = 0 := by
  obtain ⟨n, rfl⟩ := Int.eq_ofNat_of_zero_le h0
  have := bits_and_u64_nat n 9223372036854775808 (by omega) (by omega)
  rw [show ((9223372036854775808 : Nat) : Int) = 9223372036854775808 from rfl] at this
  rw [this]
  have e : n &&& 9223372036854775808 = 0 := by
    apply Nat.eq_of_testBit_eq
    intro i
    rw [Nat.testBit_and, show (9223372036854775808 : Nat) = 2 ^ 63 from rfl, Nat.testBit_two_pow, Nat.zero_testBit]
    by_cases h : 63 = i
    · subst h
      rw [Nat.testBit_lt_two_pow (by omega)]; rfl
    · simp [h]
  rw [e]; rfl
theorem or_zero (m : Int) (h0 : 0 ≤ m) (h1 : m < 1073741824) : bits BinOp.or IntKind.u64 0 m = m := by
  obtain ⟨m, rfl⟩ := Int.eq_ofNat_of_zero_le h0
  have := bits_or_u64_nat 0 m (by omega) (by omega)
  rw [show ((0 : Nat) : Int) = 0 from rfl] at this
  rw [this, Nat.zero_or]
theorem andNot_mask (n : Int) (h0 : 0 ≤ n) (h1 : n < 1073741824) : bits BinOp.andNot IntKind.u64 n 1073741823 = 0 := by
  obtain ⟨n, rfl⟩ := Int.eq_ofNat_of_zero_le h0
  have := u64_andNot_nat n 1073741823 (by omega) (by omega)
  rw [show ((1073741823 : Nat) : Int) = 1073741823 from rfl] at this
  rw [this]
  have e : n &&& (18446744073709551615 - 1073741823) = 0 := by
    apply Nat.eq_of_testBit_eq
    intro i
    rw [Nat.testBit_and, show (18446744073709551615 - 1073741823 : Nat) = 2 ^ 30 * 17179869183 from rfl, Nat.testBit_two_pow_mul, Nat.zero_testBit]
    by_cases h : 30 ≤ i
    · rw [Nat.testBit_lt_two_pow (Nat.lt_of_lt_of_le (show n < 2 ^ 30 by omega) (Nat.pow_le_pow_right (by omega) h))]; rfl
    · simp [h]
  rw [e]; rfl

/-- A time: n nanoseconds and s seconds. -/
def tmv (n s : Int) : Value := .agg #[.int .u64 n, .int .i64 s, .pointer none]
def okN (n : Int) : Prop := 0 ≤ n ∧ n < 1000000000

theorem nsec_any (B : Nat) (n : Int) (w : World) (hn : okN n) (h : w.cell? ⟨B, 0, none⟩ = some (.int .u64 n)) :
    Calls Tryf.prog 41 #[.pointer (some ⟨B, 0, none⟩)] w fun e w' => e = .returned (.int .i32 n) ∧ w' = w := by
  have e1 := and_mask n hn.1 (by have := hn.2; omega)
  have e2 : IntKind.i32.wrap n = n := by
    obtain ⟨a, b⟩ := hn
    rw [IntKind.wrap_i32]; omega
  clear hn
  go_enter Tryf.func41, Tryf.ntmps41
  go_wp2_with fail
  go_ret
  exact ⟨rfl, rfl⟩
theorem sec_any (B : Nat) (n s : Int) (w : World) (hn : okN n) (h : w.cell? ⟨B, 0, none⟩ = some (.int .u64 n)) (h1 : w.cell? ⟨B, 1, none⟩ = some (.int .i64 s)) :
    Calls Tryf.prog 54 #[.pointer (some ⟨B, 0, none⟩)] w fun e w' => e = .returned (.int .i64 s) ∧ w' = w := by
  have e1 := and_mono n hn.1 (by have := hn.2; omega)
  clear hn
  go_enter Tryf.func54, Tryf.ntmps54
  go_wp2_with fail
  go_ret
  exact ⟨rfl, rfl⟩
theorem addSec_any (B : Nat) (n s d : Int) (w : World) (hn : okN n) (hs : -4611686018427387904 ≤ s ∧ s ≤ 4611686018427387904) (hd : -4611686018427387904 ≤ d ∧ d ≤ 4611686018427387903) (h : w.cell? ⟨B, 0, none⟩ = some (.int .u64 n)) (h1 : w.cell? ⟨B, 1, none⟩ = some (.int .i64 s)) (hf : w.frozen? ⟨B, 1, none⟩ = false) :
    Calls Tryf.prog 42 #[.pointer (some ⟨B, 0, none⟩), .int .i64 d] w fun e w' => e = .returned (.tuple #[]) ∧ w' = w.setCell ⟨B, 1, none⟩ (.int .i64 (s + d)) := by
  have e1 := and_mono n hn.1 (by have := hn.2; omega)
  have ew : IntKind.i64.wrap (s + d) = s + d := by rw [IntKind.wrap_i64]; omega
  clear hn hs hd
  by_cases c : 0 < d
  · have c' : s < s + d := by omega
    go_enter Tryf.func42, Tryf.ntmps42
    go_wp2_with fail
    go_end0
    exact ⟨rfl, rfl⟩
  · have c' : ¬ s < s + d := by omega
    go_enter Tryf.func42, Tryf.ntmps42
    go_wp2_with fail
    go_end0
    exact ⟨rfl, rfl⟩

set_option maxHeartbeats 2000000 in
set_option maxRecDepth 10000 in
theorem add_any (n s d : Int) (w : World) (hn : okN n) (hs : -4611686018427387904 ≤ s ∧ s ≤ 4611686018427387904 - 10000000000) (hs2 : -4611686018427387904 + 10000000000 ≤ s) (hd : -9223372036854775808 ≤ d ∧ d ≤ 9223372036854775807) :
    Calls Tryf.prog 30 #[.agg #[.int .u64 n, .int .i64 s, .pointer none], .int .i64 d] w fun e w' => e = .returned (.agg #[.int .u64 ((n + d) % 1000000000), .int .i64 (s + (n + d) / 1000000000), .pointer none]) ∧ Gr w w' := by
  obtain ⟨q, hq⟩ : ∃ q, d.tdiv 1000000000 = q := ⟨_, rfl⟩
  obtain ⟨r, hr⟩ : ∃ r, d.tmod 1000000000 = r := ⟨_, rfl⟩
  have hqr : d = q * 1000000000 + r ∧ -1000000000 < r ∧ r < 1000000000 ∧ -9223372037 ≤ q ∧ q ≤ 9223372037 := by
    have h1 := Int.tmod_add_mul_tdiv d 1000000000
    have h2 : r < 1000000000 := by rw [← hr]; exact Int.tmod_lt_of_pos _ (by omega)
    have h3 : -1000000000 < r := by rw [← hr]; exact Int.lt_tmod_of_pos _ (by omega)
    rw [hq, hr] at h1
    omega
  have hK41 : Hid (∀ W B, W.cell? ⟨B, 0, none⟩ = some (.int .u64 n) → Calls Tryf.prog 41 #[.pointer (some ⟨B, 0, none⟩)] W fun e w' => e = .returned (.int .i32 n) ∧ w' = W) := fun W B h => nsec_any B n W hn h
  have e1 := andNot_mask n hn.1 (by have := hn.2; omega)
  have g1 : IntKind.i64.wrap q = q := by rw [IntKind.wrap_i64]; omega
  have g2 : IntKind.i32.wrap r = r := by rw [IntKind.wrap_i32]; omega
  obtain ⟨hn0, hn1⟩ := hn
  have g3 : IntKind.i32.wrap (n + r) = n + r := by rw [IntKind.wrap_i32]; omega
  by_cases c1 : 1000000000 ≤ n + r
  · obtain ⟨m, hm⟩ : ∃ m, m = n + r - 1000000000 := ⟨_, rfl⟩
    have hm0 : 0 ≤ m ∧ m < 1000000000 := by omega
    have f1 : (n + d) % 1000000000 = m := by omega
    have f2 : (n + d) / 1000000000 = q + 1 := by omega
    have f3 : IntKind.u64.wrap m = m := by simp [IntKind.wrap, IntKind.bits, IntKind.signed]; omega
    have f4 := and_mono m hm0.1 (by omega)
    have f5 := or_zero m hm0.1 (by omega)
    have K42 : Hid (∀ W B, W.cell? ⟨B, 0, none⟩ = some (.int .u64 m) → W.cell? ⟨B, 1, none⟩ = some (.int .i64 s) → W.frozen? ⟨B, 1, none⟩ = false → Calls Tryf.prog 42 #[.pointer (some ⟨B, 0, none⟩), .int .i64 (q + 1)] W fun e w' => e = .returned (.tuple #[]) ∧ w' = W.setCell ⟨B, 1, none⟩ (.int .i64 (s + (q + 1)))) := fun W B a b c => addSec_any B m s _ W hm0 (by omega) (by omega) a b c
    rw [f1, f2]
    have x1 : IntKind.i64.wrap (q + 1) = q + 1 := by rw [IntKind.wrap_i64]; omega
    have x2 : IntKind.i32.wrap (n + r - 1000000000) = m := by rw [IntKind.wrap_i32]; omega
    have x3 : ¬ m < 0 := by omega
    have HMM := hide hm
    clear hm
    clear hm0 hqr hn0 hn1 hs hs2 hd f1 f2 HMM
    go_enter Tryf.func30, Tryf.ntmps30
    go_wp2_with (first
      | (go_at_call 41; refine Calls.mono (unhide hK41 _ _ (by simp)) ?_; rintro e w8 ⟨rfl, rfl⟩)
      | (go_at_call 42; refine Calls.mono (unhide K42 _ _ (by simp) (by simp) (by simp)) ?_; rintro e w8 ⟨rfl, rfl⟩))
    exact bodyPost_ret (v := .agg #[.int .u64 m, .int .i64 (s + (q + 1)), .pointer none]) (by simp [results, Tryf.results30, go_sem]) rfl ⟨rfl, ((Gr.refl _).alloc _).alloc _⟩
  · by_cases c2 : n + r < 0
    · obtain ⟨m, hm⟩ : ∃ m, m = n + r + 1000000000 := ⟨_, rfl⟩
      have hm0 : 0 ≤ m ∧ m < 1000000000 := by omega
      have f1 : (n + d) % 1000000000 = m := by omega
      have f2 : (n + d) / 1000000000 = q - 1 := by omega
      have f3 : IntKind.u64.wrap m = m := by simp [IntKind.wrap, IntKind.bits, IntKind.signed]; omega
      have f4 := and_mono m hm0.1 (by omega)
      have f5 := or_zero m hm0.1 (by omega)
      have K42 : Hid (∀ W B, W.cell? ⟨B, 0, none⟩ = some (.int .u64 m) → W.cell? ⟨B, 1, none⟩ = some (.int .i64 s) → W.frozen? ⟨B, 1, none⟩ = false → Calls Tryf.prog 42 #[.pointer (some ⟨B, 0, none⟩), .int .i64 (q - 1)] W fun e w' => e = .returned (.tuple #[]) ∧ w' = W.setCell ⟨B, 1, none⟩ (.int .i64 (s + (q - 1)))) := fun W B a b c => addSec_any B m s _ W hm0 (by omega) (by omega) a b c
      rw [f1, f2]
      have x1 : IntKind.i64.wrap (q - 1) = q - 1 := by rw [IntKind.wrap_i64]; omega
      have x2 : IntKind.i32.wrap (n + r + 1000000000) = m := by rw [IntKind.wrap_i32]; omega
      have HMM := hide hm
      clear hm
      clear hm0 hqr hn0 hn1 hs hs2 hd f1 f2 HMM
      go_enter Tryf.func30, Tryf.ntmps30
      go_wp2_with (first
        | (go_at_call 41; refine Calls.mono (unhide hK41 _ _ (by simp)) ?_; rintro e w8 ⟨rfl, rfl⟩)
        | (go_at_call 42; refine Calls.mono (unhide K42 _ _ (by simp) (by simp) (by simp)) ?_; rintro e w8 ⟨rfl, rfl⟩))
      exact bodyPost_ret (v := .agg #[.int .u64 m, .int .i64 (s + (q - 1)), .pointer none]) (by simp [results, Tryf.results30, go_sem]) rfl ⟨rfl, ((Gr.refl _).alloc _).alloc _⟩

    · obtain ⟨m, hm⟩ : ∃ m, m = n + r := ⟨_, rfl⟩
      have hm0 : 0 ≤ m ∧ m < 1000000000 := by omega
      have f1 : (n + d) % 1000000000 = m := by omega
      have f2 : (n + d) / 1000000000 = q := by omega
      have f3 : IntKind.u64.wrap m = m := by simp [IntKind.wrap, IntKind.bits, IntKind.signed]; omega
      have f4 := and_mono m hm0.1 (by omega)
      have f5 := or_zero m hm0.1 (by omega)
      have K42 : Hid (∀ W B, W.cell? ⟨B, 0, none⟩ = some (.int .u64 m) → W.cell? ⟨B, 1, none⟩ = some (.int .i64 s) → W.frozen? ⟨B, 1, none⟩ = false → Calls Tryf.prog 42 #[.pointer (some ⟨B, 0, none⟩), .int .i64 (q)] W fun e w' => e = .returned (.tuple #[]) ∧ w' = W.setCell ⟨B, 1, none⟩ (.int .i64 (s + (q)))) := fun W B a b c => addSec_any B m s _ W hm0 (by omega) (by omega) a b c
      rw [f1, f2]
      subst hm
      have HMM := hide hn0
      clear hm0 hqr hn0 hn1 hs hs2 hd f1 f2 HMM
      go_enter Tryf.func30, Tryf.ntmps30
      go_wp2_with (first
        | (go_at_call 41; refine Calls.mono (unhide hK41 _ _ (by simp)) ?_; rintro e w8 ⟨rfl, rfl⟩)
        | (go_at_call 42; refine Calls.mono (unhide K42 _ _ (by simp) (by simp) (by simp)) ?_; rintro e w8 ⟨rfl, rfl⟩))
      exact bodyPost_ret (v := .agg #[.int .u64 (n + r), .int .i64 (s + (q)), .pointer none]) (by simp [results, Tryf.results30, go_sem]) rfl ⟨rfl, ((Gr.refl _).alloc _).alloc _⟩

end Go.Proofs.Qxb6612998aFmt
