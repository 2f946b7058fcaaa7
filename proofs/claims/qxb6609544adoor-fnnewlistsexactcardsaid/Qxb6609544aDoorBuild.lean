import Derived.Test.Qxb6609544aDoorTr
namespace Go.Proofs.Qxb6609544aDoor
open Go.RowKit Go.Sort

/-- A slice of entries. -/
def R6 (w : World) (zp : Addr) (oa : Option Addr) (l : List (Int × Int)) : Prop := l ≠ [] → ∃ b off, oa = some ⟨b, off, none⟩ ∧ b < w.heap.size ∧ ∀ i (h : i < l.length), ∀ j, j < 6 → w.cell? ⟨b, off + i * 6 + j, none⟩ = (enc6 zp l[i])[j]?

theorem sl_hi (b off N c k : Nat) (i : Int) (hi : i = (k : Int)) (h : k ≤ c) (w : World) : (Instr.slice 27 (.slice (some ⟨b, off, none⟩) N c) none (some (.int .i64 i)) none).run Tryd.prog w = .ok (.slice (some ⟨b, off, none⟩) k c) w := by
  subst hi
  simp [Instr.slice, Instr.sliceBounds, Instr.sliceBound, run_underlying Tryd.underlying27, Tryd.sizeOf49, go_sem, h]
theorem sl_lo (b off N c k : Nat) (i : Int) (hi : i = (k : Int)) (h : k ≤ N) : ∃ oa, (∀ w, (Instr.slice 27 (.slice (some ⟨b, off, none⟩) N c) (some (.int .i64 i)) none none).run Tryd.prog w = .ok (.slice oa (N - k) (c - k)) w) ∧ (k < c → oa = some ⟨b, off + k * 6, none⟩) := by
  subst hi
  refine ⟨if c = k then some ⟨b, off, none⟩ else some ⟨b, off + k * 6, none⟩, fun w => ?_, fun h => if_neg (by omega)⟩
  simp [Instr.slice, Instr.sliceBounds, Instr.sliceBound, run_underlying Tryd.underlying27, Tryd.sizeOf49, go_sem, h]
  try rfl

def six (W : World) (b o : Nat) (zp : Addr) (a1 a2 : Int) : Prop := W.cell? ⟨b, o, none⟩ = some (.int .u64 0) ∧ W.cell? ⟨b, o + 1, none⟩ = some (.int .u64 a1) ∧ W.cell? ⟨b, o + 2, none⟩ = some (.pointer (some zp)) ∧ W.cell? ⟨b, o + 3, none⟩ = some (.int .u64 0) ∧ W.cell? ⟨b, o + 4, none⟩ = some (.int .u64 a2) ∧ W.cell? ⟨b, o + 5, none⟩ = some (.pointer (some zp))

/-- What a call of build leaves. -/
def Blt (w : World) (zp : Addr) (f : Nat) (l : List (Int × Int)) (p : Option Addr) (w' : World) : Prop := Tree w' zp w'.heap.size f p l ∧ Below w.heap.size w w'

/-- The two calls. -/
def Pst (b off N c m : Nat) (oa : Option Addr) (l : List (Int × Int)) (zp : Addr) (f : Nat) (W : World) (args : Array Value) (p : Option Addr) (w' : World) : Prop := (args = #[.slice (some ⟨b, off, none⟩) m c] → Blt W zp f (l.take m) p w') ∧ (args = #[.slice oa (N - (m + 1)) (c - (m + 1))] → Blt W zp f (l.drop (m + 1)) p w')

theorem getElem_take' (l : List (Int × Int)) (m i : Nat) (h : i < (l.take m).length) : (l.take m)[i] = l[i]'(by simp at h; omega) := by simp
theorem getElem_drop' (l : List (Int × Int)) (m i : Nat) (h : i < (l.drop m).length) : (l.drop m)[i] = l[m + i]'(by simp at h; omega) := by simp

set_option maxHeartbeats 2000000 in
set_option maxRecDepth 10000 in
theorem build_any : ∀ (f : Nat) (l : List (Int × Int)) (N : Nat) (oa : Option Addr) (c : Nat) (zp : Addr) (w : World), l.length = N → N ≤ f → N ≤ c → N ≤ 1048576 → Zs w zp → R6 w zp oa l → allL l →
    Calls Tryd.prog 37 #[.slice oa N c] w fun e w' => ∃ p, e = .returned (.pointer p) ∧ Blt w zp f l p w' := by
  intro f
  induction f with
  | zero =>
    intro l N oa c zp w hN hf hc hl hz hr ha
    obtain rfl : l = [] := List.eq_nil_of_length_eq_zero (by omega)
    obtain rfl : 0 = N := hN
    clear hr
    go_enter Tryd.func37, Tryd.ntmps37
    go_wp2_with fail
    go_ret
    exact ⟨none, rfl, ⟨rfl, rfl⟩, Below.refl _ _⟩
  | succ f ih =>
    intro l N oa c zp w hN hf hc hl hz hr ha
    by_cases h0 : l = []
    · subst h0
      obtain rfl : 0 = N := hN
      clear hr
      go_enter Tryd.func37, Tryd.ntmps37
      go_wp2_with fail
      go_ret
      exact ⟨none, rfl, Or.inl ⟨rfl, rfl⟩, Below.refl _ _⟩
    · obtain ⟨b, off, rfl, hb, hcl⟩ := hr h0
      have hNp : 0 < N := by rw [← hN]; exact List.length_pos_iff.2 h0
      obtain ⟨m, hm⟩ : ∃ m, m = N / 2 := ⟨_, rfl⟩
      have hmN : m < N := by omega
      have hml : m < l.length := by omega
      have em : ((N : Int)).tdiv 2 = (m : Int) := by rw [Int.tdiv_eq_ediv_of_nonneg (by omega)]; omega
      obtain ⟨oR, sR, hoR⟩ := sl_lo b off N c (m + 1) (↑m + 1) (by omega) (by omega)
      have sL := sl_hi b off N c m ↑m rfl (by omega)
      have ew : IntKind.i64.wrap (↑m + 1) = ↑m + 1 := by rw [IntKind.wrap_i64]; omega
      have KI : Hid (∀ W args, (args = #[.slice (some ⟨b, off, none⟩) m c] ∨ args = #[.slice oR (N - (m + 1)) (c - (m + 1))]) → Below w.heap.size w W → Calls Tryd.prog 37 args W fun e w' => ∃ p, e = .returned (.pointer p) ∧ Pst b off N c m oR l zp f W args p w') := by
        intro W args hag hbl
        have hz' : Zs W zp := hz.below hbl
        have hsz := hbl.size
        have hne : (#[.slice (some ⟨b, off, none⟩) m c] : Array Value) ≠ #[.slice oR (N - (m + 1)) (c - (m + 1))] := by
          intro h; simp at h; omega
        rcases hag with rfl | rfl
        · refine (?_ : Calls Tryd.prog 37 _ W fun e w' => ∃ p, e = .returned (.pointer p) ∧ Blt W zp f (l.take m) p w').mono (fun e w' ⟨p, h1, h2⟩ => ⟨p, h1, fun _ => h2, fun h => absurd h hne⟩)
          refine ih (l.take m) m _ c zp W (by simp; omega) (by omega) (by omega) (by omega) hz' ?_ (fun x hx => ha x (List.mem_of_mem_take hx))
          intro _
          refine ⟨b, off, rfl, by omega, fun i h j hj => ?_⟩
          rw [getElem_take', hbl.cell (p := ⟨b, off + i * 6 + j, none⟩) hb]
          exact hcl i _ j hj
        · refine (?_ : Calls Tryd.prog 37 _ W fun e w' => ∃ p, e = .returned (.pointer p) ∧ Blt W zp f (l.drop (m + 1)) p w').mono (fun e w' ⟨p, h1, h2⟩ => ⟨p, h1, fun h => absurd h.symm hne, fun _ => h2⟩)
          refine ih (l.drop (m + 1)) (N - (m + 1)) _ (c - (m + 1)) zp W (by simp; omega) (by omega) (by omega) (by omega) hz' ?_ (fun x hx => ha x (List.mem_of_mem_drop hx))
          intro hne
          have hlt : m + 1 < l.length := by
            rcases Nat.lt_or_ge (m + 1) l.length with h | h
            · exact h
            · exact absurd (List.drop_eq_nil_of_le h) hne
          refine ⟨b, off + (m + 1) * 6, hoR (by omega), by omega, fun i h j hj => ?_⟩
          rw [getElem_drop', show off + (m + 1) * 6 + i * 6 + j = off + (m + 1 + i) * 6 + j by omega, hbl.cell (p := ⟨b, off + (m + 1 + i) * 6 + j, none⟩) hb]
          exact hcl (m + 1 + i) _ j hj
      obtain ⟨y, hy⟩ : ∃ y, y = l[m] := ⟨_, rfl⟩
      obtain ⟨a1, ha1⟩ : ∃ a, a = 281470681743360 + y.1 := ⟨_, rfl⟩
      obtain ⟨a2, ha2⟩ : ∃ a, a = 281470681743360 + y.2 := ⟨_, rfl⟩
      have K6 : Hid (∀ W, Below w.heap.size w W → six W b (off + m * 6) zp a1 a2) := by
        intro W hbl
        have q : ∀ j, j < 6 → W.cell? ⟨b, off + m * 6 + j, none⟩ = (enc6 zp y)[j]? := fun j hj => by
          rw [hbl.cell (p := ⟨b, off + m * 6 + j, none⟩) hb, hy]; exact hcl m hml j hj
        rw [ha1, ha2]
        exact ⟨q 0 (by omega), q 1 (by omega), q 2 (by omega), q 3 (by omega), q 4 (by omega), q 5 (by omega)⟩
      have hyl := ha y (by rw [hy]; exact List.getElem_mem _)
      have KJ : Hid (∀ W8 W9 p1 p2, Blt w zp f (l.take m) p1 W8 → Blt W8 zp f (l.drop (m + 1)) p2 W9 → Calls Tryd.prog 53 #[.pointer p1, .agg #[.int .u64 0, .int .u64 a1, .pointer (some zp), .int .u64 0, .int .u64 a2, .pointer (some zp)], .pointer p2] W9 fun e w' => ∃ p, e = .returned (.pointer p) ∧ Blt w zp (f + 1) l p w') := by
        intro W8 W9 p1 p2 h8 h9
        obtain ⟨t8, b8⟩ := h8
        obtain ⟨t9, b9⟩ := h9
        have hs8 := b8.size
        have hs9 := b9.size
        have hb9 : Below w.heap.size w W9 := b8.trans (b9.mono hs8)
        have hz9 : Zs W9 zp := hz.below hb9
        have t8' : Tree W9 zp W8.heap.size f p1 (l.take m) := t8.below b9
        have aT : allL (l.take m) := fun x hx => ha x (List.mem_of_mem_take hx)
        have aD : allL (l.drop (m + 1)) := fun x hx => ha x (List.mem_of_mem_drop hx)
        have hsplit : l = l.take m ++ y :: l.drop (m + 1) := by
          conv => lhs; rw [← List.take_append_drop m l]
          rw [hy, ← List.drop_eq_getElem_cons]
        have lT : (l.take m).length = m := by simp; omega
        have lD : (l.drop (m + 1)).length = N - (m + 1) := by simp; omega
        have hj := join_any W9 zp y p1 p2 ((l.take m).length : Int) ((l.drop (m + 1)).length : Int) (mxL (l.take m)) (mxL (l.drop (m + 1))) hz9 ((t8'.mono hs9).kid (Nat.le_refl _) aT) (t9.kid (Nat.le_refl _) aD) hyl.2 (by rw [lT]; omega) (by rw [lD]; omega)
        have ee : (enc6 zp y).toArray = #[.int .u64 0, .int .u64 a1, .pointer (some zp), .int .u64 0, .int .u64 a2, .pointer (some zp)] := by rw [ha1, ha2]; rfl
        rw [ee] at hj
        refine hj.mono ?_
        rintro e w' ⟨rfl, m1, m2, m3, m4⟩
        refine ⟨_, rfl, Or.inr ⟨W9.heap.size + 1, y, p1, p2, l.take m, l.drop (m + 1), rfl, by omega, hsplit, ?_, by rw [lT, lD]; omega, by rw [lT, lD]; omega, ((t8'.mono hs9).below m1).mono m1.size, (t9.below m1).mono m1.size⟩, hb9.trans (m1.mono (by omega))⟩
        have e1 : (l.length : Int) = 1 + ((l.take m).length : Int) + ((l.drop (m + 1)).length : Int) := by rw [lT, lD]; omega
        have e2 : mxL l = mx (mx y.2 (mxL (l.take m))) (mxL (l.drop (m + 1))) := by
          conv => lhs; rw [hsplit]
          exact mxL_mid _ _ _ aT hyl aD
        rw [e1, e2]; exact m2
      have hx6 : Hid (∀ p W, Blt w zp (f + 1) l p W → Below w.heap.size w W) := fun p W h => h.2
      have k6 := unhide K6 w (Below.refl _ _)
      unfold six at k6
      obtain ⟨k0, k1, k2, k3, k4, k5⟩ := k6
      clear ih hz ha hcl hb hf hm hr h0 hN hy ha1 ha2 hyl hoR hml
      go_enter Tryd.func37, Tryd.ntmps37
      go_wp2_with fail
      go_region_held3 (fun w' => w'.cell? ⟨b, off + m * 6, none⟩ = some (.int .u64 0) ∧ w'.cell? ⟨b, off + m * 6 + 1, none⟩ = some (.int .u64 a1) ∧ w'.cell? ⟨b, off + m * 6 + 2, none⟩ = some (.pointer (some zp)) ∧ w'.cell? ⟨b, off + m * 6 + 3, none⟩ = some (.int .u64 0) ∧ w'.cell? ⟨b, off + m * 6 + 4, none⟩ = some (.int .u64 a2) ∧ w'.cell? ⟨b, off + m * 6 + 5, none⟩ = some (.pointer (some zp)))
        (go_keep) (first
          | (go_at_call 37; have KI' := unhide KI; refine Calls.mono (KI' _ _ ?_ ?_) ?_; clear KI'; (first | exact Or.inl rfl | exact Or.inr rfl); (first | exact (unhide HB8) | exact (Below.refl _ _).drew); rintro e w8 ⟨p8, rfl, HG8⟩; (first | (replace HG8 := HG8.2 rfl; have HG9 := hide ((unhide HB8).trans (HG8.2.mono (unhide HB8).size)); have HT9 := hide HG8; have hc9 := unhide K6 w8 (unhide HG9); unfold six at hc9; clear HG8) | (replace HG8 := HG8.1 rfl; have HB8 := hide ((Below.refl _ w).drew.trans HG8.2); have HT8 : Hid (Blt w zp f (l.take m) p8 w8) := ⟨HG8.1, unhide HB8⟩; have hc8 := unhide K6 w8 (unhide HB8); unfold six at hc8; clear HG8)))
          | (go_at_call 53; refine Calls.mono (unhide KJ _ _ _ _ (unhide HT8) (unhide HT9)) ?_; rintro e w9 ⟨p9, rfl, HG10⟩; have hc10 := unhide K6 w9 (HG10.2); unfold six at hc10; replace HG10 := hide HG10))
      go_wp2_with fail
      go_ret
      exact ⟨_, rfl, unhide HG10⟩
end Go.Proofs.Qxb6609544aDoor
