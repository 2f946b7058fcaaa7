import Derived.Test.Qxb6600706aTop
import Derived.Test.Qxb6600706aWin
namespace Go.Proofs.Qxb6600706a
open Go.RowKit

/-- What the four copies are. -/
structure Four (w : World) (o1 o2 o3 o4 : Option Addr) (c1 c2 c3 c4 ab tb ka kb N K : Nat) (S T : Nat → ByteArray) (A B : Nat → Bool) : Prop where
  r1 : 0 < N → o1 = some ⟨ab, 0, none⟩ ∧ c1 = N ∧ ab < w.heap.size ∧ ∀ i, i < N → w.cell? ⟨ab, i, none⟩ = some (.string (S i))
  r2 : 0 < K → o2 = some ⟨tb, 0, none⟩ ∧ c2 = K ∧ tb < w.heap.size ∧ ∀ i, i < K → w.cell? ⟨tb, i, none⟩ = some (.string (T i))
  r3 : 0 < N → o3 = some ⟨ka, 0, none⟩ ∧ c3 = N ∧ ka < w.heap.size ∧ (∀ i, w.frozen? ⟨ka, i, none⟩ = false) ∧ ∀ i, i < N → w.cell? ⟨ka, i, none⟩ = some (.bool (A i))
  r4 : 0 < K → o4 = some ⟨kb, 0, none⟩ ∧ c4 = K ∧ kb < w.heap.size ∧ (∀ i, w.frozen? ⟨kb, i, none⟩ = false) ∧ ∀ i, i < K → w.cell? ⟨kb, i, none⟩ = some (.bool (B i))
  d : 0 < N → 0 < K → ka ≠ kb ∧ ka ≠ ab ∧ ka ≠ tb ∧ kb ≠ ab ∧ kb ≠ tb

set_option maxHeartbeats 1000000 in
theorem zzcmp_any (o1 o2 o3 o4 : Option Addr) (c1 c2 c3 c4 ab tb ka kb N K : Nat) (S T : Nat → ByteArray) (A B : Nat → Bool) (a0 a1 b0 b1 : Int) (w : World) (h : Four w o1 o2 o3 o4 c1 c2 c3 c4 ab tb ka kb N K S T A B)
    (hN : N ≤ 10000) (hK : K ≤ 10000) (ha0 : 0 ≤ a0) (ha1 : a0 ≤ a1) (ha2 : a1 ≤ N) (hb0 : 0 ≤ b0) (hb1 : b0 ≤ b1) (hb2 : b1 ≤ K) :
    Calls Try.prog 17 #[.slice o1 N c1, .slice o2 K c2, .slice o3 N c3, .slice o4 K c4, .int .i64 a0, .int .i64 a1, .int .i64 b0, .int .i64 b1] w fun e w' => e = .returned (.tuple #[]) ∧
      ∃ A' B', Adds A A' a0 a1 ∧ Adds B B' b0 b1 ∧ (0 < N → ∀ i, i < N → w'.cell? ⟨ka, i, none⟩ = some (.bool (A' i))) ∧ (0 < K → ∀ i, i < K → w'.cell? ⟨kb, i, none⟩ = some (.bool (B' i))) ∧ Fr ka kb w w' := by
  have bw : ∀ o, Below w.heap.size w (w.alloc o) := fun o => (Below.refl _ _).alloc (Nat.le_refl _) o
  by_cases hpos : 0 < N ∧ 0 < K
  · obtain ⟨hp1, hp2⟩ := hpos
    obtain ⟨rfl, rfl, l1, s1⟩ := h.r1 hp1
    obtain ⟨rfl, rfl, l2, s2⟩ := h.r2 hp2
    obtain ⟨rfl, e3, l3, f3, s3⟩ := h.r3 hp1
    obtain ⟨rfl, e4, l4, f4, s4⟩ := h.r4 hp2
    subst e3 e4
    obtain ⟨d0, d1, d2, d3, d4⟩ := h.d hp1 hp2
    have hC : CM (w.alloc (.cells #[.slice (some ⟨ab, 0, none⟩) c3 c3, .slice (some ⟨tb, 0, none⟩) c4 c4, .slice (some ⟨ka, 0, none⟩) c3 c3, .slice (some ⟨kb, 0, none⟩) c4 c4] 42)) w.heap.size ab tb ka kb c3 c4 S T A B := by
      have c := fun (p i : Nat) (hp : p < w.heap.size) => (bw (.cells #[.slice (some ⟨ab, 0, none⟩) c3 c3, .slice (some ⟨tb, 0, none⟩) c4 c4, .slice (some ⟨ka, 0, none⟩) c3 c3, .slice (some ⟨kb, 0, none⟩) c4 c4] 42)).cell (p := ⟨p, i, none⟩) hp
      have f := fun (p i : Nat) (hp : p < w.heap.size) => (bw (.cells #[.slice (some ⟨ab, 0, none⟩) c3 c3, .slice (some ⟨tb, 0, none⟩) c4 c4, .slice (some ⟨ka, 0, none⟩) c3 c3, .slice (some ⟨kb, 0, none⟩) c4 c4] 42)).frozen (p := ⟨p, i, none⟩) hp
      refine ⟨?_, ?_, ?_, ?_, fun i hi => (c _ _ l1).trans (s1 i hi), fun i hi => (c _ _ l2).trans (s2 i hi), fun i hi => (c _ _ l3).trans (s3 i hi), fun i hi => (c _ _ l4).trans (s4 i hi), fun i => (f _ _ l3).trans (f3 i), fun i => (f _ _ l4).trans (f4 i), by simp, by simp; omega, by simp; omega, by simp; omega, by simp; omega, d0, by omega, d1, d2, by omega, d3, d4⟩ <;> (rw [cell_of_row _ _ _ _ 42 (0, 0) (heap_alloc_new _ _)]; rfl)
    have HC := hide hC
    have HB := hide (bw (.cells #[.slice (some ⟨ab, 0, none⟩) c3 c3, .slice (some ⟨tb, 0, none⟩) c4 c4, .slice (some ⟨ka, 0, none⟩) c3 c3, .slice (some ⟨kb, 0, none⟩) c4 c4] 42))
    clear hC h s1 s2 s3 s4 f3 f4 bw l1 l2 l3 l4 d0 d1 d2 d3 d4
    go_enter Try.func17, Try.ntmps17
    go_wp2_with fail
    refine (compare_any w.heap.size ab tb ka kb c3 c4 S T hN hK _ a0 a1 b0 b1 A B _ (unhide HC) ha0 ha1 ha2 hb0 hb1 hb2 rfl).mono ?_
    rintro e w1 ⟨rfl, A', B', hC1, hA1, hB1, hF1⟩
    have HR := hide (And.intro hA1 (And.intro hB1 (And.intro hC1 hF1)))
    clear hA1 hB1 hC1 hF1
    go_wp2_with fail
    go_end0
    obtain ⟨q1, q2, q3, q4⟩ := unhide HR
    exact ⟨rfl, A', B', q1, q2, fun _ => q3.ca, fun _ => q3.cb, (Fr.below (unhide HB)).trans q4⟩
  · have he : a0 = a1 ∨ b0 = b1 := by omega
    have HQ : Hid ((0 < N → ∀ i, i < N → w.cell? ⟨ka, i, none⟩ = some (.bool (A i))) ∧ (0 < K → ∀ i, i < K → w.cell? ⟨kb, i, none⟩ = some (.bool (B i))) ∧ (0 < N → ka < w.heap.size) ∧ (0 < K → kb < w.heap.size)) :=
      ⟨fun h0 => (h.r3 h0).2.2.2.2, fun h0 => (h.r4 h0).2.2.2.2, fun h0 => (h.r3 h0).2.2.1, fun h0 => (h.r4 h0).2.2.1⟩
    have HE := hide he
    have HBW := hide bw
    clear h bw hpos he
    go_enter Try.func17, Try.ntmps17
    go_wp2_with fail
    refine (compare_none w.heap.size a0 a1 b0 b1 _ (unhide HE) ha0 ha1 (by omega) hb0 hb1 (by omega)).mono ?_
    rintro e w1 ⟨rfl, hb⟩
    have HB : Hid (Below w.heap.size w w1) := (unhide HBW _).trans (hb.mono (by simp))
    clear hb HBW
    go_wp2_with fail
    go_end0
    obtain ⟨q1, q2, q3, q4⟩ := unhide HQ
    refine ⟨rfl, A, B, Adds.refl _ _ _, Adds.refl _ _ _, fun h0 i hi => ?_, fun h0 i hi => ?_, Fr.below (unhide HB)⟩
    · rw [(unhide HB).cell (p := ⟨ka, i, none⟩) (q3 h0)]; exact q1 h0 i hi
    · rw [(unhide HB).cell (p := ⟨kb, i, none⟩) (q4 h0)]; exact q2 h0 i hi
end Go.Proofs.Qxb6600706a
