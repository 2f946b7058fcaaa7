import Derived.Test.Qxb6612998aA
import Derived.ProofKit
import Derived.OpenShut
import Derived.ShutString
import Derived.ChangeOld
import Derived.Below
namespace Go.Proofs.Qxb6612998a
open Go.RowKit
open Go.Lib (Hx.encode Hx.encode_length Hx.encode_at Hx.digit)

/-- Where one byte was set the two texts agree but at its two digits. -/
theorem enc_same {s t : ByteArray} {l : List UInt8} {n : Nat} {c : UInt8} (hl : l.length = 16) (hs : s.data.toList = Hx.encode l) (ht : t.data.toList = Hx.encode (l.set n c))
    (j : Nat) (h0 : j < 32) (h1 : j < s.size) (h2 : j < t.size) (e1 : j ≠ 2 * n) (e2 : j ≠ 2 * n + 1) : s[j] = t[j] := by
  obtain ⟨k, hj⟩ : ∃ k, j = 2 * k ∨ j = 2 * k + 1 := ⟨j / 2, by omega⟩
  have hk : k < l.length := by omega
  obtain ⟨b, hb⟩ : ∃ b, l[k]? = some b := ⟨_, List.getElem?_eq_getElem hk⟩
  have hc : (l.set n c)[k]? = some b := by rw [List.getElem?_set, if_neg (by omega), hb]
  rcases hj with rfl | rfl
  · rw [str_at hs h1 (Hx.encode_at l _ _ hb).1, str_at ht h2 (Hx.encode_at _ _ _ hc).1]
  · rw [str_at hs h1 (Hx.encode_at l _ _ hb).2, str_at ht h2 (Hx.encode_at _ _ _ hc).2]

set_option maxHeartbeats 400000 in
theorem oneByte (l l2 : List UInt8) (hl : l.length = 16) (n : Nat) (hn : n < 16) (c g : UInt8) (hg : l[n]? = some g) (h2 : l2 = l.set n c) (w : World) :
    Calls Try.prog 4 #[.agg (arr l), .int .i64 n, .int .u8 c.toNat] w fun e w' => e = .returned (.bool true) ∧ Below w.heap.size w w' := by
  have hsz : (arr l).size = 16 := by rw [arr_size, hl]
  have hset : (arr l).setIfInBounds n (.int .u8 (c.toNat : Int)) = arr l2 := by rw [arr_set, h2]
  have hl2 : l2.length = 16 := by rw [h2]; simpa using hl
  have q1 : decide ((n : Int) < 0) = false := by simp
  have q2 : decide ((15 : Int) < (n : Int)) = false := by simp; omega
  have HL := hide hl
  have HL2 := hide hl2
  have H2 := hide h2
  have HG := hide hg
  clear hl h2 hl2 hg
  go_enter Try.func4, Try.ntmps4
  go_wp2_with (first
    | (refine wpl_load l w.heap.size (unhide HL) _ rfl rfl rfl 22 ?_ ?_; (first | exact heap_alloc_new _ _ | exact heap_alloc2_old _ _ _))
    | (refine at_store _ _ rfl ?_; refine wpl_store l (w.heap.size + 1) (unhide HL) _ _ _ ?hg ?hc rfl rfl ?h3 ?h4 ?h5; simp; rfl; rfl; rfl))
  refine (string_any l (unhide HL) _).mono ?_
  rintro e w1 ⟨s, rfl, hs, HS, hb1⟩
  have hc1 : w1.heap[w.heap.size + 1]? = some (.cells (arr l2) 22) := by
    rw [hb1.block _ (by simp)]
    exact heap_alloc2_new _ _ _
  have HC1 := hide hc1
  clear hc1
  go_wp2_with (first
    | (refine wpl_load l2 (w.heap.size + 1) (unhide HL2) _ rfl rfl rfl 22 ?_ ?_; exact (unhide HC1)))
  refine (string_any l2 (unhide HL2) _).mono ?_
  rintro e w2 ⟨t, rfl, ht, HT, hb2⟩
  go_wp2_with fail
  have hsame : ∀ (j : Nat) (h1 : j < s.size) (h2 : j < t.size), j ≠ 2 * n → j ≠ 2 * n + 1 → s[j] = t[j] := by
    intro j h1 h2 e1 e2
    exact enc_same (unhide HL) (unhide HS) (by rw [← unhide H2]; exact unhide HT) j (by omega) h1 h2 e1 e2
  have hcell : w2.cell? ⟨w.heap.size, n, none⟩ = some (.int .u8 (g.toNat : Int)) := by
    rw [hb2.cell (p := ⟨w.heap.size, n, none⟩) (by have := hb1.size; simp at this; show w.heap.size < w1.heap.size; omega), hb1.cell (p := ⟨w.heap.size, n, none⟩) (by show w.heap.size < _; simp; omega)]
    rw [cell_of_row _ _ n (arr l) 22 (0, 0) (heap_alloc2_old _ _ _)]
    simp [arr, unhide HG]
  have hg2 : l2[n]? = some c := by rw [unhide H2, List.getElem?_set, if_pos rfl, if_pos (by rw [unhide HL]; exact hn)]
  have i1 : ∀ w, (Instr.index 9 (.string t) (.int .i64 (2 * (n : Int)))).run Try.prog w = .ok (.int .u8 (dgt ((c.toNat : Int) / 16))) w :=
    fun w => idx t (2 * n) (by omega) _ _ (by omega) (enc_hi (unhide HT) hg2 _) w
  have i2 : ∀ w, (Instr.index 9 (.string t) (.int .i64 (2 * (n : Int) + 1))).run Try.prog w = .ok (.int .u8 (dgt ((c.toNat : Int) % 16))) w :=
    fun w => idx t (2 * n + 1) (by omega) _ _ (by omega) (enc_lo (unhide HT) hg2 _) w
  have i3 : ∀ w, (Instr.index 9 (.string s) (.int .i64 (2 * (n : Int)))).run Try.prog w = .ok (.int .u8 (dgt ((g.toNat : Int) / 16))) w :=
    fun w => idx s (2 * n) (by omega) _ _ (by omega) (enc_hi (unhide HS) (unhide HG) _) w
  have i4 : ∀ w, (Instr.index 9 (.string s) (.int .i64 (2 * (n : Int) + 1))).run Try.prog w = .ok (.int .u8 (dgt ((g.toNat : Int) % 16))) w :=
    fun w => idx s (2 * n + 1) (by omega) _ _ (by omega) (enc_lo (unhide HS) (unhide HG) _) w
  clear hg2
  go_loopw [10] (fun i w' => ∃ j : Nat, j ≤ 32 ∧ i = .int .i64 j ∧ Below w2.heap.size w2 w') (fun i _ => 32 - (Go.RowKit.intOf i).toNat)
  case atStart => exact ⟨0, by omega, rfl, Below.refl _ _⟩
  case round =>
    obtain ⟨j, hj, rfl, hbr⟩ := hrel
    by_cases hlt : j < 32
    · by_cases e1 : j = 2 * n
      · subst e1
        go_wp2
        go_roundw
        case rel => exact ⟨2 * n + 1, by omega, by go_num, hbr⟩
        case measure => simp [intOf]; omega
      · by_cases e2 : j = 2 * n + 1
        · subst e2
          go_wp2
          go_roundw
          case rel => exact ⟨2 * n + 1 + 1, by omega, by go_num, hbr⟩
          case measure => simp [intOf]; omega
        · have q3 : ((j : Int) == 2 * (n : Int)) = false := by simp; omega
          have q4 : ((j : Int) == 2 * (n : Int) + 1) = false := by simp; omega
          go_wp2
          go_quiet (fail)
          go_wp2
          go_roundw
          case rel => exact ⟨j + 1, by omega, by go_num, below_drewN hbr _⟩
          case measure => simp [intOf]; omega
    · have q5 : decide ((j : Int) < 32) = false := by simp; omega
      have hcell' := (hbr.cell (p := ⟨w.heap.size, n, none⟩) (by have := hb1.size; have := hb2.size; simp at *; show w.heap.size < w2.heap.size; omega)).trans hcell
      clear hcell hsame
      have hand1 := and15 c
      have hand2 := and15 g
      go_wp2
      go_big_quiet ((go_at_call 9; exact Calls.quiet_of_same (hexDigit_any _ (by omega) (by have := c.toNat_lt; have := g.toNat_lt; omega) _)))
      go_wp2
      go_ret
      have hA : Below w.heap.size w ((w.alloc (.cells (arr l) 22)).alloc (.cells (arr l2) 22)) := ((Below.refl _ _).alloc (Nat.le_refl _) _).alloc (by simp) _
      exact ⟨rfl, ((hA.trans (hb1.mono (by simp; omega))).trans (hb2.mono (by have := hb1.size; simp at this; omega))).trans ((below_drewN hbr _).mono (by have := hb1.size; have := hb2.size; simp at *; omega))⟩

set_option maxHeartbeats 400000 in
theorem outside (l : List UInt8) (hl : l.length = 16) (k b : Int) (h : k < 0 ∨ 15 < k) (w : World) :
    Calls Try.prog 4 #[.agg (arr l), .int .i64 k, .int .u8 b] w fun e w' => e = .returned (.bool true) ∧ Below w.heap.size w w' := by
  have hsz : (arr l).size = 16 := by rw [arr_size, hl]
  clear hl
  by_cases h0 : k < 0
  · go_enter Try.func4, Try.ntmps4
    go_wp2
    go_ret
    exact ⟨rfl, (Below.refl _ _).alloc (Nat.le_refl _) _⟩
  · have h1 : 15 < k := by omega
    clear h
    go_enter Try.func4, Try.ntmps4
    go_wp2
    go_ret
    exact ⟨rfl, (Below.refl _ _).alloc (Nat.le_refl _) _⟩

open Go.ChangeShapes Go.WideShapes Go.ChangeAt

set_option maxRecDepth 100000 in
theorem lifted1 (os : Os) (started : os.Started) (H : Type) (enc : TypeId × Value → H) :
    ReturnsInHanded {} Try.checked os 4 .any (Rows.fnGUIDStringOneByteChangesTwoDigitsSpec.pre6 enc Try.prog Try.f4 Rows.fnGUIDStringOneByteChangesTwoDigitsRow.domain false) (Rows.fnGUIDStringOneByteChangesTwoDigitsSpec.post enc Try.prog Try.f4 false true false false) := by
  refine returnsInHanded_of_change (C := Try.checked) own started (by kernel_rfl) Try.func4
    (ChangeSpec.witness6 (enc := enc) (C := Try.checked) false ⟨#[], #[.agg #[.int .u8 0, .int .u8 0, .int .u8 0, .int .u8 0, .int .u8 0, .int .u8 0, .int .u8 0, .int .u8 0, .int .u8 0, .int .u8 0, .int .u8 0, .int .u8 0, .int .u8 0, .int .u8 0, .int .u8 0, .int .u8 0], .int .i64 0, .int .u8 0], []⟩ 8 (by kernel_rfl) (by kernel_rfl) (by kernel_rfl) (by kernel_rfl)) ?_
  intro W base args ds gs before hval0 hW hcnd _
  have hval : ∀ (j : Nat) t v, Try.f4.params[j]? = some t → args[j]? = some v → Value.okWide Try.prog W .any base t v := hval0
  have hW' := hW
  obtain ⟨p, q, hA0, hV, rfl, hfz, hnd⟩ := hW
  have hA : DataW.TrodAll enc Try.prog W 0 (fun _ => true) true Try.f4.params.toList args.toList ds p := hA0
  rw [Try.params4] at hA hval
  obtain ⟨v0, vs0, d0, ds0, p0, q0, hargs, rfl, rfl, h0, r0⟩ := trodAll_cons hA
  obtain ⟨v1, vs1, d1, ds1, p1, q1, rfl, rfl, rfl, h1, r1⟩ := trodAll_cons r0
  obtain ⟨v2, vs2, d2, ds2, p2, q2, rfl, rfl, rfl, h2, r2⟩ := trodAll_cons r1
  obtain ⟨rfl, rfl, rfl⟩ := trodAll_nil r2
  obtain rfl : args = #[v0, v1, v2] := by cases args; simp_all
  obtain ⟨rfl, rfl⟩ := trodVars_none hV
  have k0 := h0
  have lt0 : ∀ x ∈ p0, x.block < W.heap.size := by obtain ⟨m, hm⟩ := k0; exact DataW.trod_lt m _ _ _ hm
  obtain ⟨l, hl, rfl⟩ := open_arr (hval 0 22 v0 rfl rfl) h0
  obtain ⟨a1, rfl, rfl, rfl, w1⟩ := open_int Try.underlying3 (hval 1 3 v1 rfl rfl) h1
  obtain ⟨a2, rfl, rfl, rfl, w2⟩ := open_int Try.underlying5 (hval 2 5 v2 rfl rfl) h2
  clear hA0 hval0
  have hb2 := bounds_u8 w2
  have walk : Calls Try.prog 4 #[.agg (arr l), .int .i64 a1, .int .u8 a2] W fun e w' => e = .returned (.bool true) ∧ Below W.heap.size W w' := by
    by_cases hk : a1 < 0 ∨ 15 < a1
    · exact outside l hl a1 a2 hk W
    · obtain ⟨n, rfl⟩ := Int.eq_ofNat_of_zero_le (show 0 ≤ a1 by omega)
      obtain ⟨c, rfl⟩ : ∃ c : UInt8, a2 = (c.toNat : Int) := ⟨UInt8.ofNat a2.toNat, by rw [UInt8.toNat_ofNat']; omega⟩
      exact oneByte l _ hl n (by omega) c (l[n]'(by omega)) (List.getElem?_eq_getElem _) rfl W
  refine walk.mono fun e W' ⟨he, bel⟩ => ?_
  subst he
  exact ⟨_, rfl, _, _, _, [], _, [], hW', trodAll_mk1 (shut_bool Try.underlying4 _), (trodAll_cons_mk (Below.trod laidOut (by kernel_rfl) (of_decide_eq_true (by kernel_rfl)) k0 bel lt0) (trodAll_cons_mk (shut_int Try.underlying3 w1) (trodAll_cons_mk (shut_int Try.underlying5 w2) trodAll_mk0))), rfl, bel.frame _, fun h => by cases h⟩

/-- THE STATEMENT. -/
theorem proved1 : Rows.FnGUIDStringOneByteChangesTwoDigitsSaid :=
  OpenClaim.holds_of_wide 4 Try.f4 rfl rfl rfl rfl rfl rfl rfl ⟨rfl, rfl, rfl, rfl, rfl⟩ rfl rfl rfl rfl rfl (by kernel_rfl) Try.func4 (by kernel_rfl)
    (of_decide_eq_true (by kernel_rfl)) (by unfold Func.isWrapper; first | (rw [if_pos (by decide +kernel)]; kernel_rfl) | (rw [if_neg (by decide +kernel)]; exact ⟨rfl, rfl⟩))
    (fun os started H enc _ => lifted1 os started H enc)
end Go.Proofs.Qxb6612998a
