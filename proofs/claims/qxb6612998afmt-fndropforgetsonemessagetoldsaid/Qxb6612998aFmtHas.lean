import Derived.Test.Qxb6612998aFmtStart
namespace Go.Proofs.Qxb6612998aFmt
open Go.RowKit Go.Sort

theorem wrap_pow (a : Nat) (ha : a < 64) : IntKind.u64.wrap ((2 : Int) ^ a) = ((2 ^ a : Nat) : Int) := by
  have h1 : (2 : Nat) ^ a ≤ 2 ^ 63 := Nat.pow_le_pow_right (by omega) (by omega)
  have h2 : ((2 : Int) ^ a) = ((2 ^ a : Nat) : Int) := by simp
  rw [h2]
  generalize (2 : Nat) ^ a = z at *
  rw [IntKind.wrap_u64]
  omega
theorem and_pow (W a : Nat) : W &&& 2 ^ a = if W.testBit a then 2 ^ a else 0 := by
  apply Nat.eq_of_testBit_eq
  intro i
  rw [Nat.testBit_and, Nat.testBit_two_pow]
  by_cases h : a = i
  · subst h
    cases hb : W.testBit a <;> simp
  · cases hb : W.testBit a <;> simp [h]
theorem and_bit (W a : Nat) (ha : a < 64) (hW : W < 18446744073709551616) : bits BinOp.and IntKind.u64 (W : Int) (IntKind.u64.wrap ((2 : Int) ^ a)) = if W.testBit a then ((2 ^ a : Nat) : Int) else 0 := by
  have h1 : (2 : Nat) ^ a ≤ 2 ^ 63 := Nat.pow_le_pow_right (by omega) (by omega)
  rw [wrap_pow a ha, bits_and_u64_nat W (2 ^ a) hW (by omega), and_pow]
  cases W.testBit a <;> simp
theorem or_bit (W a : Nat) (ha : a < 64) (hW : W < 18446744073709551616) : bits BinOp.or IntKind.u64 (W : Int) (IntKind.u64.wrap ((2 : Int) ^ a)) = ((W ||| 2 ^ a : Nat) : Int) := by
  have h1 : (2 : Nat) ^ a ≤ 2 ^ 63 := Nat.pow_le_pow_right (by omega) (by omega)
  rw [wrap_pow a ha, bits_or_u64_nat W (2 ^ a) hW (by omega)]
theorem bitN_lt (k : Int) : ∀ got : List (Int × List Int), bitN k got < 18446744073709551616
  | [] => by simp [bitN]
  | x :: r => by
    have ih := bitN_lt k r
    simp only [bitN]
    refine Nat.or_lt_two_pow (n := 64) ih ?_
    split
    · exact Nat.pow_lt_pow_right (by omega) (by omega)
    · omega
theorem bitN_app (k : Int) : ∀ (got : List (Int × List Int)) (x : Int × List Int), bitN k (got ++ [x]) = bitN k got ||| (if x.1 / 64 = k then 2 ^ (x.1 % 64).toNat else 0)
  | [], x => by simp [bitN]
  | y :: r, x => by
    simp only [List.cons_append, bitN, bitN_app k r x]
    rw [Nat.or_assoc, Nat.or_comm (if x.1 / 64 = k then _ else _), ← Nat.or_assoc]
/-- A part has come. -/
def come (n : Int) (got : List (Int × List Int)) : Bool := got.any (fun x => x.1 == n)
theorem bitN_test (k : Int) (a : Nat) (ha : a < 64) : ∀ got : List (Int × List Int), (bitN k got).testBit a = come (k * 64 + a) got
  | [] => by simp [bitN, come]
  | x :: r => by
    have ih := bitN_test k a ha r
    simp only [bitN, Nat.testBit_or, ih, come, List.any_cons]
    rw [Bool.or_comm]
    congr 1
    by_cases h : x.1 / 64 = k
    · rw [if_pos h, Nat.testBit_two_pow]
      have : (x.1 % 64).toNat = a ↔ x.1 = k * 64 + a := by omega
      by_cases c : x.1 = k * 64 + a
      · rw [decide_eq_true (this.2 c)]; simp [c]
      · rw [decide_eq_false (fun e => c (this.1 e))]; simp [c]
    · rw [if_neg h]
      have : ¬ x.1 = k * 64 + a := by omega
      simp [this]

theorem has_word {w : World} {m : Msg} (h : w.heap[m.pA]? = some (.cells m.pc 97 (0, 0))) : ∀ k : Nat, k < 4 → w.cell? ⟨m.pA, 8 + k, none⟩ = some (.int .u64 (bitN k m.got : Int))
  | 0, _ => cell_of h 8
  | 1, _ => cell_of h 9
  | 2, _ => cell_of h 10
  | 3, _ => cell_of h 11

set_option maxHeartbeats 1000000 in
theorem has_any (w : World) (K0 : Nat) (m : Msg) (n : Nat) (hp : Part w K0 m) (hn : n < 256) :
    Calls Tryf.prog 35 #[.pointer (some ⟨m.pA, 0, none⟩), .int .i64 n] w fun e w' => e = .returned (.bool (come n m.got)) ∧ Gr w w' := by
  obtain ⟨k, hk⟩ : ∃ k, k = n / 64 := ⟨_, rfl⟩
  obtain ⟨a, ha⟩ : ∃ a, a = n % 64 := ⟨_, rfl⟩
  have t1 : ((n : Int)).tdiv 64 = (k : Int) := by rw [Int.tdiv_eq_ediv_of_nonneg (by omega)]; omega
  have t2 : ((n : Int)).tmod 64 = (a : Int) := by rw [Int.tmod_eq_emod_of_nonneg (by omega)]; omega
  have x1 : (0 : Int) ≤ (k : Int) := by omega
  have x2 : (k : Int) < 4 := by omega
  have x3 : (0 : Int) ≤ (a : Int) := by omega
  have hw := has_word hp.1 k (by omega)
  have hb := and_bit (bitN k m.got) a (by omega) (bitN_lt _ _)
  rw [bitN_test k a (by omega), show (k : Int) * 64 + (a : Int) = (n : Int) by omega] at hb
  have hc : ∀ q : Nat, (w.drewN q).cell? ⟨m.pA, 8 + k, none⟩ = some (.int .u64 (bitN k m.got : Int)) := fun _ => hw
  have hp2 : 0 < (2 : Nat) ^ a := Nat.pow_pos (by omega)
  generalize come n m.got = r at *
  have e1 : IntKind.i64.wrap ((n : Int) / 64) = (n : Int) / 64 := by rw [IntKind.wrap_i64]; omega
  have e2 : IntKind.i64.wrap ((n : Int) % 64) = (a : Int) := by rw [IntKind.wrap_i64]; omega
  have x4 : (0 : Int) ≤ (n : Int) / 64 := by omega
  have x5 : (n : Int) / 64 < 4 := by omega
  have hc' : ∀ q : Nat, (w.drewN q).cell? ⟨m.pA, 8 + n / 64, none⟩ = some (.int .u64 (bitN k m.got : Int)) := by rw [← hk]; exact hc
  go_enter Tryf.func35, Tryf.ntmps35
  go_wp2_with fail
  go_quiet (fail)
  go_wp2
  go_ret
  refine ⟨?_, Gr.drewN (Gr.refl w) nq⟩
  have e4 : ((n : Int) / 64) = ((n / 64 : Nat) : Int) := by omega
  rw [e4, ← hk, ← ha, hb]
  cases r
  · simp
  · have : ((2 ^ a : Nat) : Int) ≠ 0 := by omega
    rw [if_pos rfl, bne_iff_ne.2 this]; rfl
end Go.Proofs.Qxb6612998aFmt
