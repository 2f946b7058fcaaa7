import Derived.Test.Qxb6612998aA
import Derived.ProofKit
import Derived.OpenShut
import Derived.ShutString
import Derived.ChangeOld
import Derived.Below
import Derived.Laws.ResultCell
namespace Go.Proofs.Qxb6612998a
open Go.RowKit
open Go.Lib (Hx.encode Hx.encode_length Hx.encode_at Hx.digit)

theorem list16 {α : Type} (l : List α) (h : l.length = 16) : ∃ a0 a1 a2 a3 a4 a5 a6 a7 a8 a9 b0 b1 b2 b3 b4 b5, l = [a0, a1, a2, a3, a4, a5, a6, a7, a8, a9, b0, b1, b2, b3, b4, b5] := by
  match l, h with
  | [a0, a1, a2, a3, a4, a5, a6, a7, a8, a9, b0, b1, b2, b3, b4, b5], _ => exact ⟨a0, a1, a2, a3, a4, a5, a6, a7, a8, a9, b0, b1, b2, b3, b4, b5, rfl⟩

set_option maxHeartbeats 1000000 in
/-- '==' of an array of sixteen bytes with itself. -/
theorem eq_arr (l : List UInt8) (hl : l.length = 16) (w : World) : (binOp .eql 22 (.agg (arr l)) (.agg (arr l))).run Try.prog w = .ok (.bool true) w := by
  obtain ⟨a0, a1, a2, a3, a4, a5, a6, a7, a8, a9, b0, b1, b2, b3, b4, b5, rfl⟩ := list16 l hl
  rw [run_eql_struct, show (10000 : Nat) = 9999 + 1 from rfl]
  have e5 : ∀ (x : Int) (w : World), (Op.equalIn (9998 + 1) 5 (.int .u8 x) (.int .u8 x)).run Try.prog w = .ok true w := by
    intro x w
    generalize (9998 : Nat) = d
    simp [Op.equalIn, run_underlying Try.underlying5]
  have p5 : ∀ (cs : Array Value) (i : Nat) (v : Value) (w : World), cs[i]? = some v → (part 5 cs i).run Try.prog w = .ok v w := by
    intro cs i v w h
    simp [part, Try.isAgg5, h]
  rw [Op.equalIn]
  simp only [Sem.run_bind, run_underlying Try.underlying22, Result.andThen_ok, Try.sizeOf5]
  simp [Std.Legacy.Range.forIn_eq_forIn_range', List.range', arr, p5, e5]

/-! ### The order of two lists of bytes, as the law's helpers reckon it -/
def cmpL : List UInt8 → List UInt8 → Int
  | a :: l, b :: m => if (a.toNat : Int) < b.toNat then -1 else if (b.toNat : Int) < a.toNat then 1 else cmpL l m
  | _, _ => 0

theorem cmpL_lt {l m : List UInt8} {j : Nat} {a b : UInt8} (ha : l[j]? = some a) (hb : m[j]? = some b) (h : (a.toNat : Int) < b.toNat) : cmpL (l.drop j) (m.drop j) = -1 := by
  obtain ⟨h1, e1⟩ := List.getElem?_eq_some_iff.1 ha
  obtain ⟨h2, e2⟩ := List.getElem?_eq_some_iff.1 hb
  rw [List.drop_eq_getElem_cons h1, List.drop_eq_getElem_cons h2, e1, e2, cmpL, if_pos h]
theorem cmpL_gt {l m : List UInt8} {j : Nat} {a b : UInt8} (ha : l[j]? = some a) (hb : m[j]? = some b) (h0 : ¬ (a.toNat : Int) < b.toNat) (h : (b.toNat : Int) < a.toNat) : cmpL (l.drop j) (m.drop j) = 1 := by
  obtain ⟨h1, e1⟩ := List.getElem?_eq_some_iff.1 ha
  obtain ⟨h2, e2⟩ := List.getElem?_eq_some_iff.1 hb
  rw [List.drop_eq_getElem_cons h1, List.drop_eq_getElem_cons h2, e1, e2, cmpL, if_neg h0, if_pos h]
theorem cmpL_on {l m : List UInt8} {j : Nat} {a b : UInt8} (ha : l[j]? = some a) (hb : m[j]? = some b) (h0 : ¬ (a.toNat : Int) < b.toNat) (h : ¬ (b.toNat : Int) < a.toNat) : cmpL (l.drop j) (m.drop j) = cmpL (l.drop (j + 1)) (m.drop (j + 1)) := by
  obtain ⟨h1, e1⟩ := List.getElem?_eq_some_iff.1 ha
  obtain ⟨h2, e2⟩ := List.getElem?_eq_some_iff.1 hb
  rw [List.drop_eq_getElem_cons h1, List.drop_eq_getElem_cons h2, e1, e2, cmpL, if_neg h0, if_neg h]
theorem cmpL_end {l m : List UInt8} {j : Nat} (h : l.length ≤ j) : cmpL (l.drop j) (m.drop j) = 0 := by
  rw [List.drop_of_length_le h, cmpL]
  intro a l b m h; cases h

theorem digit_mono : ∀ x y : Fin 16, (((Hx.digit x.val).toNat : Int) < (Hx.digit y.val).toNat) ↔ x.val < y.val := by decide +kernel

theorem cmpL_encode : ∀ (l m : List UInt8), l.length = m.length → cmpL (Hx.encode l) (Hx.encode m) = cmpL l m
  | [], [], _ => rfl
  | [], _ :: _, h => by simp at h
  | _ :: _, [], h => by simp at h
  | a :: l, b :: m, h => by
    have ih := cmpL_encode l m (by simpa using h)
    have ha := a.toNat_lt
    have hb := b.toNat_lt
    have q1 := digit_mono ⟨a.toNat / 16, by omega⟩ ⟨b.toNat / 16, by omega⟩
    have q2 := digit_mono ⟨b.toNat / 16, by omega⟩ ⟨a.toNat / 16, by omega⟩
    have q3 := digit_mono ⟨a.toNat % 16, by omega⟩ ⟨b.toNat % 16, by omega⟩
    have q4 := digit_mono ⟨b.toNat % 16, by omega⟩ ⟨a.toNat % 16, by omega⟩
    simp only at q1 q2 q3 q4
    rw [Go.Lib.Hx.encode_cons, Go.Lib.Hx.encode_cons]
    simp only [cmpL, ih, q1, q2, q3, q4]
    by_cases c1 : a.toNat / 16 < b.toNat / 16
    · rw [if_pos c1, if_pos (by omega)]
    · rw [if_neg c1]
      by_cases c2 : b.toNat / 16 < a.toNat / 16
      · rw [if_pos c2, if_neg (by omega), if_pos (by omega)]
      · rw [if_neg c2]
        by_cases c3 : a.toNat % 16 < b.toNat % 16
        · rw [if_pos c3, if_pos (by omega)]
        · rw [if_neg c3]
          by_cases c4 : b.toNat % 16 < a.toNat % 16
          · rw [if_pos c4, if_neg (by omega), if_pos (by omega)]
          · rw [if_neg c4, if_neg (by omega), if_neg (by omega)]

/-! ### The walks -/
set_option maxHeartbeats 400000 in
theorem cmpBytes_any (l m : List UInt8) (hl : l.length = 16) (hm : m.length = 16) (w : World) :
    Calls Try.prog 7 #[.agg (arr l), .agg (arr m)] w fun e w' => e = .returned (.int .i64 (cmpL l m)) ∧ Below w.heap.size w w' := by
  have hsz1 : (arr l).size = 16 := by rw [arr_size, hl]
  have hsz2 : (arr m).size = 16 := by rw [arr_size, hm]
  have hA : Below w.heap.size w ((w.alloc (.cells (arr l) 22)).alloc (.cells (arr m) 22)) := ((Below.refl _ _).alloc (Nat.le_refl _) _).alloc (by simp) _
  have hc1 : ∀ j a, l[j]? = some a → ((w.alloc (.cells (arr l) 22)).alloc (.cells (arr m) 22)).cell? ⟨w.heap.size, j, none⟩ = some (.int .u8 (a.toNat : Int)) := by
    intro j a ha
    rw [cell_of_row _ _ j (arr l) 22 (0, 0) (heap_alloc2_old _ _ _)]
    simp [arr, ha]
  have hc2 : ∀ j a, m[j]? = some a → ((w.alloc (.cells (arr l) 22)).alloc (.cells (arr m) 22)).cell? ⟨w.heap.size + 1, j, none⟩ = some (.int .u8 (a.toNat : Int)) := by
    intro j a ha
    rw [cell_of_row _ _ j (arr m) 22 (0, 0) (heap_alloc2_new _ _ _)]
    simp [arr, ha]
  have HA := hide hA
  have HC1 := hide hc1
  have HC2 := hide hc2
  have HL := hide hl
  have HM := hide hm
  clear hA hc1 hc2 hl hm
  go_enter Try.func7, Try.ntmps7
  go_wp2
  go_loopw [5] (fun i w' => ∃ j : Nat, j ≤ 16 ∧ i = .int .i64 j ∧ Hid (cmpL (l.drop j) (m.drop j) = cmpL l m) ∧ Below (w.heap.size + 2) ((w.alloc (.cells (arr l) 22)).alloc (.cells (arr m) 22)) w') (fun i _ => 16 - (intOf i).toNat)
  case atStart => exact ⟨0, by omega, rfl, rfl, Below.refl _ _⟩
  case round =>
    obtain ⟨j, hj, rfl, HI, hbr⟩ := hrel
    by_cases hlt : j < 16
    · obtain ⟨a, ha⟩ : ∃ a, l[j]? = some a := ⟨_, List.getElem?_eq_getElem (by rw [unhide HL]; exact hlt)⟩
      obtain ⟨b, hb⟩ : ∃ b, m[j]? = some b := ⟨_, List.getElem?_eq_getElem (by rw [unhide HM]; exact hlt)⟩
      have g1 := (hbr.cell (p := ⟨w.heap.size, j, none⟩) (by show w.heap.size < _; omega)).trans (unhide HC1 j a ha)
      have g2 := (hbr.cell (p := ⟨w.heap.size + 1, j, none⟩) (by show w.heap.size + 1 < _; omega)).trans (unhide HC2 j b hb)
      have HBR := hide hbr
      have HX1 := hide ha
      have HX2 := hide hb
      clear hbr ha hb
      by_cases c1 : (a.toNat : Int) < (b.toNat : Int)
      · go_wp2
        go_quiet (fail)
        go_wp2
        go_ret
        exact ⟨ret_int (by rw [← unhide HI, cmpL_lt (unhide HX1) (unhide HX2) (by omega)]), (unhide HA).trans ((below_drewN (unhide HBR) _).mono (Nat.le_add_right _ 2))⟩
      · by_cases c2 : (b.toNat : Int) < (a.toNat : Int)
        · go_wp2
          go_quiet (fail)
          go_wp2
          go_quiet (fail)
          go_wp2
          go_ret
          exact ⟨ret_int (by rw [← unhide HI, cmpL_gt (unhide HX1) (unhide HX2) (by omega) (by omega)]), (unhide HA).trans ((below_drewN (below_drewN (unhide HBR) _) _).mono (Nat.le_add_right _ 2))⟩
        · go_wp2
          go_quiet (fail)
          go_wp2
          go_quiet (fail)
          go_wp2
          go_roundw
          case rel => exact ⟨j + 1, by omega, by go_num, ((cmpL_on (unhide HX1) (unhide HX2) (by omega) (by omega)).symm.trans (unhide HI)), below_drewN (unhide HBR) _⟩
          case measure => simp [intOf]; omega
    · go_wp2
      go_ret
      exact ⟨ret_int (by rw [← unhide HI, cmpL_end (by rw [unhide HL]; omega)]), (unhide HA).trans (hbr.mono (Nat.le_add_right _ 2))⟩

theorem bytes_get (s : ByteArray) (j : Nat) (h : j < s.size) : s.data.toList[j]? = some s[j] := by
  have h' : j < s.data.toList.length := by simpa using h
  rw [List.getElem?_eq_getElem h']
  simp only [Array.getElem_toList]
  rfl

set_option maxHeartbeats 400000 in
theorem cmpString_any (s t : ByteArray) (hs : s.size = 32) (ht : t.size = 32) (w : World) :
    Calls Try.prog 8 #[.string s, .string t] w fun e w' => e = .returned (.int .i64 (cmpL s.data.toList t.data.toList)) ∧ Below w.heap.size w w' := by
  go_enter Try.func8, Try.ntmps8
  go_wp2
  go_loopw [6] (fun i w' => ∃ j : Nat, j ≤ 32 ∧ i = .int .i64 j ∧ Hid (cmpL (s.data.toList.drop j) (t.data.toList.drop j) = cmpL s.data.toList t.data.toList) ∧ Below w.heap.size w w') (fun i _ => 32 - (intOf i).toNat)
  case atStart => exact ⟨0, by omega, rfl, rfl, Below.refl _ _⟩
  case round =>
    obtain ⟨j, hj, rfl, HI, hbr⟩ := hrel
    have HBR := hide hbr
    clear hbr
    by_cases hlt : j < 32
    · have ha := bytes_get s j (by omega)
      have hb := bytes_get t j (by omega)
      have i1 : ∀ w, (Instr.index 9 (.string s) (.int .i64 (j : Int))).run Try.prog w = .ok (.int .u8 ((s[j]'(by omega)).toNat : Int)) w := fun w => idx s j (by omega) _ _ rfl rfl w
      have i2 : ∀ w, (Instr.index 9 (.string t) (.int .i64 (j : Int))).run Try.prog w = .ok (.int .u8 ((t[j]'(by omega)).toNat : Int)) w := fun w => idx t j (by omega) _ _ rfl rfl w
      generalize s[j]'(by omega) = a at ha i1
      generalize t[j]'(by omega) = b at hb i2
      have HX1 := hide ha
      have HX2 := hide hb
      clear ha hb
      by_cases c1 : (a.toNat : Int) < (b.toNat : Int)
      · go_wp2
        go_quiet (fail)
        go_wp2
        go_ret
        exact ⟨ret_int (by rw [← unhide HI, cmpL_lt (unhide HX1) (unhide HX2) (by omega)]), below_drewN (unhide HBR) _⟩
      · by_cases c2 : (b.toNat : Int) < (a.toNat : Int)
        · go_wp2
          go_quiet (fail)
          go_wp2
          go_quiet (fail)
          go_wp2
          go_ret
          exact ⟨ret_int (by rw [← unhide HI, cmpL_gt (unhide HX1) (unhide HX2) (by omega) (by omega)]), below_drewN (below_drewN (unhide HBR) _) _⟩
        · go_wp2
          go_quiet (fail)
          go_wp2
          go_quiet (fail)
          go_wp2
          go_roundw
          case rel => exact ⟨j + 1, by omega, by go_num, ((cmpL_on (unhide HX1) (unhide HX2) (by omega) (by omega)).symm.trans (unhide HI)), by first | exact below_drewN (unhide HBR) _ | exact below_drewN (below_drewN (unhide HBR) _) _⟩
          case measure => simp [intOf]; omega
    · go_wp2
      go_ret
      exact ⟨ret_int (by rw [← unhide HI, cmpL_end (by simp; omega)]), unhide HBR⟩

set_option maxHeartbeats 400000 in
theorem unhexDigit_any (v : Int) (h0 : 0 ≤ v) (h1 : v < 16) (w : World) :
    Calls Try.prog 11 #[.int .u8 (dgt v)] w fun e w' => e = .returned (.tuple #[.int .u8 v, .bool true]) ∧ w' = w := by
  by_cases h : v < 10
  · rw [dgt_lo h]
    go_enter Try.func11, Try.ntmps11
    go_wp2
    go_ret2
    exact ⟨by simp; omega, rfl⟩
  · rw [dgt_hi h]
    go_enter Try.func11, Try.ntmps11
    go_wp2
    go_ret2
    exact ⟨by simp; omega, rfl⟩

/-- What the array holds when j bytes have been read back. -/
def part16 (l : List UInt8) (j : Nat) : List UInt8 := l.take j ++ List.replicate (16 - j) 0
theorem part16_length (l : List UInt8) (hl : l.length = 16) (j : Nat) (hj : j ≤ 16) : (part16 l j).length = 16 := by
  simp [part16]; omega
theorem part16_zero (l : List UInt8) : arr (part16 l 0) = #[.int .u8 0, .int .u8 0, .int .u8 0, .int .u8 0, .int .u8 0, .int .u8 0, .int .u8 0, .int .u8 0, .int .u8 0, .int .u8 0, .int .u8 0, .int .u8 0, .int .u8 0, .int .u8 0, .int .u8 0, .int .u8 0] := by
  simp [part16, arr, List.replicate]
theorem part16_full (l : List UInt8) (hl : l.length = 16) : part16 l 16 = l := by
  simp [part16, List.take_of_length_le, hl]
theorem part16_set (l : List UInt8) (hl : l.length = 16) (j : Nat) (hj : j < 16) (b : UInt8) (hb : l[j]? = some b) : (part16 l j).set j b = part16 l (j + 1) := by
  obtain ⟨h1, e1⟩ := List.getElem?_eq_some_iff.1 hb
  obtain ⟨k, hk⟩ : ∃ k, 16 - j = k + 1 := ⟨15 - j, by omega⟩
  have hk2 : 16 - (j + 1) = k := by omega
  have ht : (l.take j).length = j := by simp; omega
  unfold part16
  rw [hk, hk2, List.set_append_right j b (by omega), ht, Nat.sub_self, List.replicate_succ, List.set_cons_zero, List.take_succ_eq_append_getElem h1, e1, List.append_assoc]
  rfl

theorem or16_all : ∀ x : Fin 256, bits BinOp.or IntKind.u8 ((x.val : Int) / 16 * 16 % 256) ((x.val : Int) % 16) = (x.val : Int) := by decide +kernel
theorem or16 (c : UInt8) : bits BinOp.or IntKind.u8 ((c.toNat : Int) / 16 * 16 % 256) ((c.toNat : Int) % 16) = (c.toNat : Int) := or16_all ⟨c.toNat, c.toNat_lt⟩

theorem setRow_alloc_under (w : World) (c c' : Array Value) (t : TypeId) (X : Obj) : ((w.alloc (.cells c t)).alloc X).setRow w.heap.size c' = (w.alloc (.cells c' t)).alloc X := by
  simp only [World.setRow, World.alloc]
  congr 1
  apply Array.ext_getElem?
  intro i
  rw [Array.getElem?_modify]
  by_cases h : w.heap.size = i
  · subst h
    simp [Array.getElem?_push]
  · have h' : ¬ i = w.heap.size := fun e => h e.symm
    simp [h, h', Array.getElem?_push]

/-- A whole array of sixteen bytes goes into the block that was made last but one. -/
theorem wpl_store_under {ops : Array Oper} {rest : List Oper} {o : Oper} {a : Act} {W : World} {Q : Exit → Act → World → Prop} (l : List UInt8) (hl : l.length = 16) (x y : Operand) (c : Array Value) (X : Obj) (hc : c.size = 16)
    (hgd : o.guard = none) (ho : o.op = .store 22 x y) (hx : a.eval x = .pointer (some ⟨W.heap.size, 0, none⟩)) (hy : a.eval y = .agg (arr l))
    (h : wpList Try.prog ops Q rest (a.put o.dst undef) ((W.alloc (.cells (arr l) 22)).alloc X)) : wpList Try.prog ops Q (o :: rest) a ((W.alloc (.cells c 22)).alloc X) :=
  wpList_store_row hgd 22 x y ho W.heap.size (arr l) hx hy 22 c (heap_alloc2_old W _ _) (by rw [arr_size, hl]; exact info22) (by rw [arr_size, hl, hc]) (arr_one l) (by rw [setRow_alloc_under]; exact h)

set_option maxHeartbeats 400000 in
theorem unhex_any (l : List UInt8) (hl : l.length = 16) (s : ByteArray) (hs : s.size = 32) (hS : Hid (s.data.toList = Hx.encode l)) (w : World) :
    Calls Try.prog 6 #[.string s] w fun e w' => e = .returned (.tuple #[.agg (arr l), .bool true]) ∧ Below w.heap.size w w' := by
  have HL := hide hl
  have HZ := hide (part16_zero l)
  clear hl
  go_enter Try.func6, Try.ntmps6
  go_wp2
  go_loopw [5, 6, 7, 8, 9] (fun i _ _ _ _ w' => ∃ j : Nat, j ≤ 16 ∧ i = .int .i64 j ∧ w' = (w.alloc (.cells #[.int .u8 0, .int .u8 0, .int .u8 0, .int .u8 0, .int .u8 0, .int .u8 0, .int .u8 0, .int .u8 0, .int .u8 0, .int .u8 0, .int .u8 0, .int .u8 0, .int .u8 0, .int .u8 0, .int .u8 0, .int .u8 0] 22)).alloc (.cells (arr (part16 l j)) 22)) (fun i _ _ _ _ _ => 16 - (intOf i).toNat)
  case atStart => exact ⟨0, by omega, rfl, by rw [unhide HZ]⟩
  case round =>
    obtain ⟨j, hj, rfl, rfl⟩ := hrel
    have hsz : (arr (part16 l j)).size = 16 := by rw [arr_size, part16_length l (unhide HL) j hj]
    by_cases hlt : j < 16
    · obtain ⟨b, hb⟩ : ∃ b, l[j]? = some b := ⟨_, List.getElem?_eq_getElem (by rw [unhide HL]; exact hlt)⟩
      have i1 : ∀ w, (Instr.index 9 (.string s) (.int .i64 (2 * (j : Int)))).run Try.prog w = .ok (.int .u8 (dgt ((b.toNat : Int) / 16))) w :=
        fun w => idx s (2 * j) (by omega) _ _ (by omega) (enc_hi (unhide hS) hb _) w
      have i2 : ∀ w, (Instr.index 9 (.string s) (.int .i64 (2 * (j : Int) + 1))).run Try.prog w = .ok (.int .u8 (dgt ((b.toNat : Int) % 16))) w :=
        fun w => idx s (2 * j + 1) (by omega) _ _ (by omega) (enc_lo (unhide hS) hb _) w
      have hset : (arr (part16 l j)).setIfInBounds j (.int .u8 (b.toNat : Int)) = arr (part16 l (j + 1)) := by rw [arr_set, part16_set l (unhide HL) j hlt b hb]
      have HB := hide hb
      clear hb
      go_wp2_with fail
      refine (unhexDigit_any _ (by omega) (by have := b.toNat_lt; omega) _).mono ?_
      rintro e w1 ⟨rfl, rfl⟩
      go_wp2_with fail
      refine (unhexDigit_any _ (by omega) (by omega) _).mono ?_
      rintro e w1 ⟨rfl, rfl⟩
      have ho := or16 b
      go_wp2_with fail
      go_roundw
      case rel => exact ⟨j + 1, by omega, by go_num, rfl⟩
      case measure => simp [intOf]; omega
    · have ej : j = 16 := by omega
      subst ej
      have hfull : part16 l 16 = l := part16_full l (unhide HL)
      go_wp2_with (first
        | (refine wpl_load l (w.heap.size + 1) (unhide HL) _ rfl rfl rfl 22 ?_ ?_; exact heap_alloc2_new _ _ _)
        | (refine at_store _ _ rfl ?_; refine wpl_store_under l (unhide HL) _ _ _ _ ?_ rfl rfl ?_ ?_ ?_; rfl; rfl; rfl))
      refine bodyPost_ret (v := .tuple #[.agg (arr l), .bool true]) ?_ rfl ⟨rfl, ((Below.refl _ _).alloc (Nat.le_refl _) _).alloc (by simp) _⟩
      rw [results_cell_tmp Try.results6]
      have e := run_loadVar_row (P := Try.prog) ((w.alloc (.cells (arr l) 22)).alloc (.cells (arr l) 22)) w.heap.size 22 22 (arr l) (0, 0) _ (heap_alloc2_old w _ _) Try.underlying22 rfl (by rw [arr_size, unhide HL]; exact info22)
      simp [asAddr, e]

/-- A whole array of sixteen bytes is read, by an operation whose guard says yes. -/
theorem wpl_load_w {ops : Array Oper} {rest : List Oper} {o : Oper} {a : Act} {w : World} {Q : Exit → Act → World → Prop} (l : List UInt8) (g : Nat) (hl : l.length = 16) (x : Operand)
    (hgd : Region.wanted o (yielded ops a.tmps) = true) (ho : o.op = .load 22 x) (hx : a.eval x = .pointer (some ⟨g, 0, none⟩)) (t : TypeId) (hg : w.heap[g]? = some (.cells (arr l) t (0, 0)))
    (h : wpList Try.prog ops Q rest (a.put o.dst (.agg (arr l))) w) : wpList Try.prog ops Q (o :: rest) a w :=
  BigFrame.wpList_want hgd fun _ hK => wp_load_row 22 x ho g hx t (arr l) (0, 0) _ hg Try.underlying22 rfl (by rw [arr_size, hl]; exact info22) (hK _ _ h)

set_option maxHeartbeats 1000000 in
theorem roundTrip (a b : List UInt8) (ha : a.length = 16) (hb : b.length = 16) (w : World) :
    Calls Try.prog 3 #[.agg (arr a), .agg (arr b)] w fun e w' => e = .returned (.bool true) ∧ Below w.heap.size w w' := by
  have hsz1 : (arr a).size = 16 := by rw [arr_size, ha]
  have hsz2 : (arr b).size = 16 := by rw [arr_size, hb]
  have q1 := eq_arr a ha
  have q2 := eq_arr b hb
  have HLA := hide ha
  have HLB := hide hb
  clear ha hb
  go_enter Try.func3, Try.ntmps3
  go_wp2_with (first
    | (refine wpl_load a w.heap.size (unhide HLA) _ rfl rfl rfl 22 ?_ ?_; exact heap_alloc2_old _ _ _))
  refine (string_any a (unhide HLA) _).mono ?_
  rintro e w1 ⟨s, rfl, hs, HS, hb1⟩
  have HA1 : Hid (w1.heap[w.heap.size]? = some (.cells (arr a) 22) ∧ w1.heap[w.heap.size + 1]? = some (.cells (arr b) 22) ∧ w.heap.size + 2 ≤ w1.heap.size ∧ Below w.heap.size w w1) := by
    refine ⟨?_, ?_, ?_, ?_⟩
    · rw [hb1.block _ (by simp; omega)]; exact heap_alloc2_old _ _ _
    · rw [hb1.block _ (by simp)]; exact heap_alloc2_new _ _ _
    · have := hb1.size; simp at this; omega
    · exact (((Below.refl _ _).alloc (Nat.le_refl _) _).alloc (by simp) _).trans (hb1.mono (by simp; omega))
  clear hb1
  go_wp2_with (first
    | (refine wpl_load b (w.heap.size + 1) (unhide HLB) _ rfl rfl rfl 22 ?_ ?_; exact (unhide HA1).2.1))
  refine (string_any b (unhide HLB) _).mono ?_
  rintro e w2 ⟨t, rfl, ht, HT, hb2⟩
  have HA2 : Hid (w2.heap[w.heap.size]? = some (.cells (arr a) 22) ∧ w2.heap[w.heap.size + 1]? = some (.cells (arr b) 22) ∧ w.heap.size + 2 ≤ w2.heap.size ∧ Below w.heap.size w w2) := by
    obtain ⟨c1, c2, c3, c4⟩ := unhide HA1
    refine ⟨by rw [hb2.block _ (by omega)]; exact c1, by rw [hb2.block _ (by omega)]; exact c2, by have := hb2.size; omega, c4.trans (hb2.mono (by omega))⟩
  clear hb2 HA1
  go_wp2_with fail
  refine (unhex_any a (unhide HLA) s hs HS _).mono ?_
  rintro e w3 ⟨rfl, hb3⟩
  have HA3 : Hid (w3.heap[w.heap.size]? = some (.cells (arr a) 22) ∧ w3.heap[w.heap.size + 1]? = some (.cells (arr b) 22) ∧ w.heap.size + 2 ≤ w3.heap.size ∧ Below w.heap.size w w3) := by
    obtain ⟨c1, c2, c3, c4⟩ := unhide HA2
    refine ⟨by rw [hb3.block _ (by omega)]; exact c1, by rw [hb3.block _ (by omega)]; exact c2, by have := hb3.size; omega, c4.trans (hb3.mono (by omega))⟩
  clear hb3 HA2
  go_wp2_with (first
    | (refine at_store _ _ rfl ?_; refine wpl_store a w3.heap.size (unhide HLA) _ _ _ ?_ ?_ rfl rfl ?_ ?_ ?_; rfl; rfl; rfl; rfl))
  refine (unhex_any b (unhide HLB) t ht HT _).mono ?_
  rintro e w4 ⟨rfl, hb4⟩
  have HA4 : Hid (((w4.alloc (.cells (arr b) 22)).heap[w.heap.size]? = some (.cells (arr a) 22) ∧ (w4.alloc (.cells (arr b) 22)).heap[w.heap.size + 1]? = some (.cells (arr b) 22)) ∧ ((w4.alloc (.cells (arr b) 22)).heap[w3.heap.size]? = some (.cells (arr a) 22) ∧ (w4.alloc (.cells (arr b) 22)).heap[w4.heap.size]? = some (.cells (arr b) 22)) ∧ Below w.heap.size w (w4.alloc (.cells (arr b) 22))) := by
    obtain ⟨c1, c2, c3, c4⟩ := unhide HA3
    have hz : w3.heap.size + 1 ≤ w4.heap.size := by have := hb4.size; simpa using this
    have e1 : ∀ k, k < w3.heap.size → (w4.alloc (.cells (arr b) 22)).heap[k]? = w3.heap[k]? := by
      intro k hk
      rw [Below.heap_alloc _ _ _ (by omega), hb4.block _ (by simp; omega), Below.heap_alloc _ _ _ hk]
    refine ⟨⟨by rw [e1 _ (by omega)]; exact c1, by rw [e1 _ (by omega)]; exact c2⟩, ⟨?_, heap_alloc_new _ _⟩, ?_⟩
    · rw [Below.heap_alloc _ _ _ (by omega), hb4.block _ (by simp)]
      exact heap_alloc_new _ _
    · exact ((c4.alloc (by omega) _).trans (hb4.mono (by simp; omega))).alloc (by omega) _
  clear hb4 HA3
  go_wp2_with (first
    | (refine at_store _ _ rfl ?_; refine wpl_store b w4.heap.size (unhide HLB) _ _ _ ?_ ?_ rfl rfl ?_ ?_ ?_; rfl; rfl; rfl; rfl)
    | (refine wpl_load_w a w3.heap.size (unhide HLA) _ ?_ rfl rfl 22 ?_ ?_; rfl; exact (unhide HA4).2.1.1)
    | (refine wpl_load_w a w.heap.size (unhide HLA) _ ?_ rfl rfl 22 ?_ ?_; rfl; exact (unhide HA4).1.1)
    | (refine wpl_load_w b w4.heap.size (unhide HLB) _ ?_ rfl rfl 22 ?_ ?_; rfl; exact (unhide HA4).2.1.2)
    | (refine wpl_load_w b (w.heap.size + 1) (unhide HLB) _ ?_ rfl rfl 22 ?_ ?_; rfl; exact (unhide HA4).1.2))
  refine (cmpBytes_any a b (unhide HLA) (unhide HLB) _).mono ?_
  rintro e w5 ⟨rfl, hb5⟩
  have HB5 := hide hb5
  clear hb5
  go_wp2_with fail
  refine (cmpString_any s t hs ht _).mono ?_
  rintro e w6 ⟨rfl, hb6⟩
  have HB6 := hide hb6
  clear hb6
  have he : (cmpL a b == cmpL s.data.toList t.data.toList) = true := by
    rw [unhide HS, unhide HT, cmpL_encode a b (by rw [unhide HLA, unhide HLB])]
    simp
  go_wp2_with fail
  go_ret
  have hz5 := (unhide HA4).2.2.size
  have hz6 := (unhide HB5).size
  exact ⟨rfl, ((unhide HA4).2.2.trans ((unhide HB5).mono hz5)).trans ((unhide HB6).mono (by omega))⟩

open Go.ChangeShapes Go.WideShapes Go.ChangeAt

set_option maxRecDepth 100000 in
theorem lifted2 (os : Os) (started : os.Started) (H : Type) (enc : TypeId × Value → H) :
    ReturnsInHanded {} Try.checked os 3 .any (Rows.fnGUIDStringRoundTripAndOrderSpec.pre6 enc Try.prog Try.f3 Rows.fnGUIDStringRoundTripAndOrderRow.domain false) (Rows.fnGUIDStringRoundTripAndOrderSpec.post enc Try.prog Try.f3 false true false false) := by
  refine returnsInHanded_of_change (C := Try.checked) own started (by kernel_rfl) Try.func3
    (ChangeSpec.witness6 (enc := enc) (C := Try.checked) false ⟨#[], #[.agg #[.int .u8 0, .int .u8 0, .int .u8 0, .int .u8 0, .int .u8 0, .int .u8 0, .int .u8 0, .int .u8 0, .int .u8 0, .int .u8 0, .int .u8 0, .int .u8 0, .int .u8 0, .int .u8 0, .int .u8 0, .int .u8 0], .agg #[.int .u8 0, .int .u8 0, .int .u8 0, .int .u8 0, .int .u8 0, .int .u8 0, .int .u8 0, .int .u8 0, .int .u8 0, .int .u8 0, .int .u8 0, .int .u8 0, .int .u8 0, .int .u8 0, .int .u8 0, .int .u8 0]], []⟩ 8 (by kernel_rfl) (by kernel_rfl) (by kernel_rfl) (by kernel_rfl)) ?_
  intro W base args ds gs before hval0 hW hcnd _
  have hval : ∀ (j : Nat) t v, Try.f3.params[j]? = some t → args[j]? = some v → Value.okWide Try.prog W .any base t v := hval0
  have hW' := hW
  obtain ⟨p, q, hA0, hV, rfl, hfz, hnd⟩ := hW
  have hA : DataW.TrodAll enc Try.prog W 0 (fun _ => true) true Try.f3.params.toList args.toList ds p := hA0
  rw [Try.params3] at hA hval
  obtain ⟨v0, vs0, d0, ds0, p0, q0, hargs, rfl, rfl, h0, r0⟩ := trodAll_cons hA
  obtain ⟨v1, vs1, d1, ds1, p1, q1, rfl, rfl, rfl, h1, r1⟩ := trodAll_cons r0
  obtain ⟨rfl, rfl, rfl⟩ := trodAll_nil r1
  obtain rfl : args = #[v0, v1] := by cases args; simp_all
  obtain ⟨rfl, rfl⟩ := trodVars_none hV
  have lt0 : ∀ x ∈ p0, x.block < W.heap.size := by obtain ⟨m, hm⟩ := h0; exact DataW.trod_lt m _ _ _ hm
  have lt1 : ∀ x ∈ p1, x.block < W.heap.size := by obtain ⟨m, hm⟩ := h1; exact DataW.trod_lt m _ _ _ hm
  obtain ⟨a, ha, rfl⟩ := open_arr (hval 0 22 v0 rfl rfl) h0
  obtain ⟨b, hb, rfl⟩ := open_arr (hval 1 22 v1 rfl rfl) h1
  clear hA0 hval0
  refine (roundTrip a b ha hb W).mono fun e W' ⟨he, bel⟩ => ?_
  subst he
  exact ⟨_, rfl, _, _, _, [], _, [], hW', trodAll_mk1 (shut_bool Try.underlying4 _), (trodAll_cons_mk (Below.trod laidOut (by kernel_rfl) (of_decide_eq_true (by kernel_rfl)) h0 bel lt0) (trodAll_cons_mk (Below.trod laidOut (by kernel_rfl) (of_decide_eq_true (by kernel_rfl)) h1 bel lt1) trodAll_mk0)), rfl, bel.frame _, fun h => by cases h⟩

/-- THE STATEMENT. -/
theorem proved2 : Rows.FnGUIDStringRoundTripAndOrderSaid :=
  OpenClaim.holds_of_wide 3 Try.f3 rfl rfl rfl rfl rfl rfl rfl ⟨rfl, rfl, rfl, rfl, rfl⟩ rfl rfl rfl rfl rfl (by kernel_rfl) Try.func3 (by kernel_rfl)
    (of_decide_eq_true (by kernel_rfl)) (by unfold Func.isWrapper; first | (rw [if_pos (by decide +kernel)]; kernel_rfl) | (rw [if_neg (by decide +kernel)]; exact ⟨rfl, rfl⟩))
    (fun os started H enc _ => lifted2 os started H enc)
end Go.Proofs.Qxb6612998a
