import Derived.Test.Qxb6612998aFmtRoom
import Derived.Test.Qxb6612998aFmtJoin
namespace Go.Proofs.Qxb6612998aFmt
open Go.RowKit Go.Sort

theorem wrap_u8' (n : Int) : IntKind.u8.wrap n = n % 256 := by simp [IntKind.wrap, IntKind.bits, IntKind.signed]
theorem bits_and_u8_nat (a b : Nat) (ha : a < 256) (hb : b < 256) : bits .and .u8 (a : Int) (b : Int) = ((a &&& b : Nat) : Int) := by
  have hx : a &&& b < 2 ^ 8 := Nat.and_lt_two_pow _ (by omega)
  have h1 : (BitVec.ofInt 8 (a : Int)).toNat = a := by
    rw [BitVec.ofInt_natCast, BitVec.toNat_ofNat]; exact Nat.mod_eq_of_lt (by omega)
  have h2 : (BitVec.ofInt 8 (b : Int)).toNat = b := by
    rw [BitVec.ofInt_natCast, BitVec.toNat_ofNat]; exact Nat.mod_eq_of_lt (by omega)
  show IntKind.u8.wrap ((BitVec.ofInt 8 (a : Int) &&& BitVec.ofInt 8 (b : Int)).toNat : Int) = _
  rw [BitVec.toNat_and, h1, h2, wrap_u8']
  omega
theorem bits_xor_u8_nat (a b : Nat) (ha : a < 256) (hb : b < 256) : bits .xor .u8 (a : Int) (b : Int) = ((a ^^^ b : Nat) : Int) := by
  have hx : a ^^^ b < 2 ^ 8 := Nat.xor_lt_two_pow (by omega) (by omega)
  have h1 : (BitVec.ofInt 8 (a : Int)).toNat = a := by
    rw [BitVec.ofInt_natCast, BitVec.toNat_ofNat]; exact Nat.mod_eq_of_lt (by omega)
  have h2 : (BitVec.ofInt 8 (b : Int)).toNat = b := by
    rw [BitVec.ofInt_natCast, BitVec.toNat_ofNat]; exact Nat.mod_eq_of_lt (by omega)
  show IntKind.u8.wrap ((BitVec.ofInt 8 (a : Int) ^^^ BitVec.ofInt 8 (b : Int)).toNat : Int) = _
  rw [BitVec.toNat_xor, h1, h2, wrap_u8']
  omega
def defl (f : Int) : Bool := decide (f % 2 = 1)
theorem flag_and (f : Int) (h0 : 0 ≤ f) (h1 : f ≤ 255) : (bits .and .u8 f 1 != 0) = defl f := by
  obtain ⟨n, rfl⟩ : ∃ n : Nat, f = n := ⟨f.toNat, by omega⟩
  have e : bits .and .u8 (n : Int) 1 = ((n &&& 1 : Nat) : Int) := bits_and_u8_nat n 1 (by omega) (by omega)
  rw [e, Nat.and_one_is_mod]
  unfold defl
  by_cases h : n % 2 = 1
  · rw [h, decide_eq_true (by omega)]; rfl
  · rw [show n % 2 = 0 by omega, decide_eq_false (by omega)]; rfl
theorem flag_xor (f g : Int) (h0 : 0 ≤ f) (h1 : f ≤ 255) (h2 : 0 ≤ g) (h3 : g ≤ 255) : (bits .and .u8 (bits .xor .u8 f g) 1 != 0) = (defl f != defl g) := by
  obtain ⟨n, rfl⟩ : ∃ n : Nat, f = n := ⟨f.toNat, by omega⟩
  obtain ⟨k, rfl⟩ : ∃ k : Nat, g = k := ⟨g.toNat, by omega⟩
  have hx : n ^^^ k < 2 ^ 8 := Nat.xor_lt_two_pow (by omega) (by omega)
  rw [bits_xor_u8_nat n k (by omega) (by omega), flag_and _ (by omega) (by omega)]
  unfold defl
  have e : (n ^^^ k) % 2 = (n + k) % 2 := by
    have h := Nat.testBit_xor n k 0
    simp only [Nat.testBit_zero] at h
    by_cases a : n % 2 = 1 <;> by_cases b : k % 2 = 1 <;> by_cases c : (n ^^^ k) % 2 = 1 <;> simp [a, b, c] at h <;> omega
  by_cases a : n % 2 = 1 <;> by_cases b : k % 2 = 1
  · rw [decide_eq_false (by omega), decide_eq_true (by omega), decide_eq_true (by omega)]; rfl
  · rw [decide_eq_true (by omega), decide_eq_true (by omega), decide_eq_false (by omega)]; rfl
  · rw [decide_eq_true (by omega), decide_eq_false (by omega), decide_eq_true (by omega)]; rfl
  · rw [decide_eq_false (by omega), decide_eq_false (by omega), decide_eq_false (by omega)]; rfl

/-- A datagram. -/
structure Stp where
  port : Int
  flags : Int
  seq : Int
  part : Int
  parts : Int
  data : List Int
  now : Int
structure okP (s : Stp) : Prop where
  flags : 0 ≤ s.flags ∧ s.flags ≤ 255
  part : 1 ≤ s.part ∧ s.part ≤ s.parts
  parts : s.parts ≤ 255
  now : ok64 s.now
  data : s.data.length ≤ 1048576
def newA (s : Stp) : Abs := ⟨s.port, s.seq, s.flags, s.parts, s.now, []⟩
/-- What is left of the held message under the datagram's key. -/
def pickA (a1 : List Abs) (s : Stp) : List Abs × Option Nat := match findA s.port s.seq a1 0 with
  | none => (a1, none)
  | some i => match a1[i]? with
    | some a => if a.parts = s.parts ∧ defl a.flags = defl s.flags then (a1, some i) else (a1.eraseIdx i, none)
    | none => (a1, none)
def addA (a : Abs) (s : Stp) : Abs := { a with got := a.got ++ [(s.part, s.data)] }
abbrev Ans := List Int × Bool × Bool
def putA (mx lim : Int) (aa : List Abs) (i : Nat) (s : Stp) : Ans × List Abs := match aa[i]? with
  | none => (([], false, false), aa)
  | some a => if come s.part a.got then (([], false, false), aa)
    else if mx < lenS a.got + s.data.length then (([], false, true), aa.eraseIdx i)
    else if ((a.got.length + 1 : Nat) : Int) = a.parts then ((joinA (addA a s).got, true, false), aa.eraseIdx i)
    else (([], false, false), room lim aa.length i (aa.set i (addA a s)))
def stepA (mx lt lim : Int) (aa : List Abs) (s : Stp) : Ans × List Abs := match pickA (aa.dropWhile (oldA s.now lt)) s with
  | (a2, none) => if s.parts = 1 then ((s.data, true, false), a2) else putA mx lim (a2 ++ [newA s]) a2.length s
  | (a2, some i) => putA mx lim a2 i s

/-- One held message is in order. -/
structure okM (a : Abs) : Prop where
  started : ok64 a.started
  parts : 1 ≤ a.parts ∧ a.parts ≤ 255
  flags : 0 ≤ a.flags ∧ a.flags ≤ 255
  nodup : (a.got.map Prod.fst).Nodup
  range : ∀ x ∈ a.got, 1 ≤ x.1 ∧ x.1 ≤ a.parts
  less : (a.got.length : Int) < a.parts
def KDA (aa : List Abs) : Prop := aa.Pairwise (fun a b => ¬ (a.port = b.port ∧ a.seq = b.seq))
structure okA (aa : List Abs) (B : Int) : Prop where
  kd : KDA aa
  sum : sumA aa ≤ B
  each : ∀ a ∈ aa, okM a
theorem okA.sub {a b : List Abs} {B : Int} (h : okA b B) (hs : a.Sublist b) (hsum : sumA a ≤ sumA b) : okA a B := ⟨List.Pairwise.sublist hs h.kd, by have := h.sum; omega, fun x hx => h.each x (hs.subset hx)⟩
theorem sumA_nonneg : ∀ aa : List Abs, 0 ≤ sumA aa
  | [] => by simp [sumA]
  | a :: r => by have := costS_pos a.got; have := sumA_nonneg r; simp only [sumA]; omega
theorem sumA_sub {a b : List Abs} (h : a.Sublist b) : sumA a ≤ sumA b := by
  induction h with
  | slnil => exact Int.le_refl _
  | cons x _ ih => have := costS_pos x.got; simp only [sumA]; omega
  | cons_cons x _ ih => simp only [sumA]; omega
theorem okA.sl {a b : List Abs} {B : Int} (h : okA b B) (hs : a.Sublist b) : okA a B := h.sub hs (sumA_sub hs)
theorem okA.mono {a : List Abs} {B C : Int} (h : okA a B) (hs : B ≤ C) : okA a C := ⟨h.kd, by have := h.sum; omega, h.each⟩
theorem sumA_app : ∀ (a b : List Abs), sumA (a ++ b) = sumA a + sumA b
  | [], b => by simp [sumA]
  | m :: r, b => by simp only [List.cons_append, sumA, sumA_app r b]; omega
theorem costS_app : ∀ (a : List (Int × List Int)) (x : Int × List Int), costS (a ++ [x]) = costS a + 64 + x.2.length
  | [], x => by simp [costS]; omega
  | y :: r, x => by simp only [List.cons_append, costS, costS_app r x]; omega
theorem lenS_app : ∀ (a : List (Int × List Int)) (x : Int × List Int), lenS (a ++ [x]) = lenS a + x.2.length
  | [], x => by simp [lenS]
  | y :: r, x => by simp only [List.cons_append, lenS, lenS_app r x]; omega
theorem lenS_le : ∀ (a : List (Int × List Int)), 0 ≤ lenS a ∧ lenS a + 64 * a.length + 256 = costS a
  | [] => by simp [lenS, costS]
  | y :: r => by have := lenS_le r; simp only [lenS, costS, List.length_cons]; omega
theorem sumA_len : ∀ aa : List Abs, 256 * (aa.length : Int) ≤ sumA aa
  | [] => by simp [sumA]
  | a :: r => by have := costS_pos a.got; have := sumA_len r; simp only [sumA, List.length_cons]; omega
theorem sumA_mem : ∀ (aa : List Abs) (a : Abs), a ∈ aa → costS a.got ≤ sumA aa
  | x :: r, a, h => by
    have h1 := costS_pos x.got
    have h2 := sumA_nonneg r
    simp only [sumA]
    rcases List.mem_cons.1 h with rfl | h
    · omega
    · have := sumA_mem r a h; omega
theorem sumA_set : ∀ (aa : List Abs) (i : Nat) (a b : Abs), aa[i]? = some a → sumA (aa.set i b) = sumA aa - costS a.got + costS b.got
  | x :: r, 0, a, b, h => by
    obtain rfl : x = a := by simpa using h
    simp only [List.set_cons_zero, sumA]; omega
  | x :: r, i + 1, a, b, h => by
    have := sumA_set r i a b (by simpa using h)
    simp only [List.set_cons_succ, sumA, this]; omega
theorem findA_none_iff (p s : Int) : ∀ (aa : List Abs) (i : Nat), findA p s aa i = none → ∀ a ∈ aa, ¬ (p = a.port ∧ s = a.seq)
  | [], _, _, a, ha => by simp at ha
  | x :: r, i, h, a, ha => by
    simp only [findA] at h
    by_cases c : p = x.port ∧ s = x.seq
    · rw [if_pos c] at h; cases h
    · rw [if_neg c] at h
      rcases List.mem_cons.1 ha with rfl | ha
      · exact c
      · exact findA_none_iff p s r (i + 1) h a ha
theorem findA_none_of (p s : Int) : ∀ (aa : List Abs) (i : Nat), (∀ a ∈ aa, ¬ (p = a.port ∧ s = a.seq)) → findA p s aa i = none
  | [], _, _ => rfl
  | x :: r, i, h => by
    simp only [findA]
    rw [if_neg (h x (by simp))]
    exact findA_none_of p s r (i + 1) (fun a ha => h a (by simp [ha]))
/-- In a list with keys apart, once the i-th is gone its key is found no more. -/
theorem findA_erase {p s : Int} {aa : List Abs} {i : Nat} (hk : KDA aa) (h : findA p s aa 0 = some i) : findA p s (aa.eraseIdx i) 0 = none := by
  obtain ⟨-, hi, hp, hs⟩ := findA_some p s aa 0 i h
  simp only [Nat.sub_zero] at hi hp hs
  refine findA_none_of p s _ 0 (fun a ha e => ?_)
  obtain ⟨j, hj, hja⟩ := List.mem_eraseIdx_iff_getElem.1 ha
  obtain ⟨hne, hja⟩ := hja
  have hpw := List.pairwise_iff_getElem.1 hk
  rcases Nat.lt_or_gt_of_ne hne with c | c
  · exact hpw j i hj hi c (by rw [hja]; exact ⟨by rw [hp]; exact e.1.symm, by rw [hs]; exact e.2.symm⟩)
  · exact hpw i j hi hj c (by rw [hja]; exact ⟨by rw [hp]; exact e.1, by rw [hs]; exact e.2⟩)
theorem room_sub (lim : Int) : ∀ (f i : Nat) (aa : List Abs), (room lim f i aa).Sublist aa
  | 0, _, _ => List.Sublist.refl _
  | f + 1, i, aa => by
    unfold room
    split
    · split
      · exact List.Sublist.trans (room_sub lim f 0 _) (by simp)
      · exact List.Sublist.refl _
      · exact List.Sublist.trans (room_sub lim f _ _) (List.sublist_cons_self _ _)
      · exact List.Sublist.refl _
    · exact List.Sublist.refl _
theorem pickA_ok {a1 : List Abs} {s : Stp} {B : Int} (h : okA a1 B) : okA (pickA a1 s).1 B ∧ (∀ i, (pickA a1 s).2 = some i → ∃ a, (pickA a1 s).1[i]? = some a ∧ a.parts = s.parts ∧ defl a.flags = defl s.flags) ∧ ((pickA a1 s).2 = none → findA s.port s.seq (pickA a1 s).1 0 = none) := by
  unfold pickA
  split
  · rename_i hf
    exact ⟨h, fun i hi => (by cases hi), fun _ => hf⟩
  · rename_i i hf
    obtain ⟨-, hi, hp, hs⟩ := findA_some _ _ _ 0 i hf
    simp only [Nat.sub_zero] at hi hp hs
    rw [List.getElem?_eq_getElem hi]
    simp only
    split
    · rename_i c
      exact ⟨h, fun j hj => by obtain rfl := Option.some.inj hj; exact ⟨_, List.getElem?_eq_getElem hi, c⟩, fun e => (by cases e)⟩
    · exact ⟨h.sl (List.eraseIdx_sublist _ _), fun j hj => (by cases hj), fun _ => findA_erase h.kd hf⟩
theorem come_false {n : Int} {got : List (Int × List Int)} (h : come n got = false) : ∀ x ∈ got, x.1 ≠ n := by
  intro x hx e
  unfold come at h
  rw [List.any_eq_false] at h
  exact h x hx (by simp [e])
theorem addA_ok {a : Abs} {s : Stp} (h : okM a) (hs : okP s) (hp : a.parts = s.parts) (hc : come s.part a.got = false) : ((addA a s).got.map Prod.fst).Nodup ∧ (∀ x ∈ (addA a s).got, 1 ≤ x.1 ∧ x.1 ≤ a.parts) := by
  unfold addA
  constructor
  · simp only [List.map_append, List.map_cons, List.map_nil]
    rw [List.nodup_append]
    refine ⟨h.nodup, by simp, fun x hx y hy => ?_⟩
    simp at hy
    subst hy
    obtain ⟨z, hz, rfl⟩ := List.mem_map.1 hx
    exact come_false hc z hz
  · intro x hx
    rcases List.mem_append.1 hx with hx | hx
    · exact h.range x hx
    · simp at hx
      subst hx
      have := hs.part
      exact ⟨this.1, by rw [hp]; exact this.2⟩
theorem putA_ok {aa : List Abs} {i : Nat} {s : Stp} {B mx lim : Int} {a : Abs} (h : okA aa B) (hs : okP s) (ha : aa[i]? = some a) (hp : a.parts = s.parts) : okA (putA mx lim aa i s).2 (B + 64 + s.data.length) := by
  unfold putA
  rw [ha]
  simp only
  split
  · exact h.mono (by omega)
  · rename_i hc
    have hc' : come s.part a.got = false := by simpa using hc
    split
    · exact (h.sl (List.eraseIdx_sublist _ _)).mono (by omega)
    · split
      · exact (h.sl (List.eraseIdx_sublist _ _)).mono (by omega)
      · rename_i hne
        have hm := h.each a (List.mem_of_getElem? ha)
        obtain ⟨h1, h2⟩ := addA_ok hm hs hp hc'
        have hset : okA (aa.set i (addA a s)) (B + 64 + s.data.length) := by
          refine ⟨?_, ?_, fun x hx => ?_⟩
          · have hk := h.kd
            unfold KDA at *
            rw [List.pairwise_iff_getElem] at *
            intro j k hj hk' hjk
            have hil : i < aa.length := (List.getElem?_eq_some_iff.1 ha).1
            have hia : aa[i] = a := (List.getElem?_eq_some_iff.1 ha).2
            have e : ∀ (t : Nat) (ht : t < (aa.set i (addA a s)).length), ((aa.set i (addA a s))[t]).port = (aa[t]'(by simpa using ht)).port ∧ ((aa.set i (addA a s))[t]).seq = (aa[t]'(by simpa using ht)).seq := fun t ht => by
              by_cases c : i = t
              · subst c
                rw [List.getElem_set_self, hia]; exact ⟨rfl, rfl⟩
              · rw [List.getElem_set_ne c]; exact ⟨rfl, rfl⟩
            rw [(e j hj).1, (e j hj).2, (e k hk').1, (e k hk').2]
            exact hk j k (by simpa using hj) (by simpa using hk') hjk
          · rw [sumA_set aa i a _ ha]
            have := h.sum
            have := costS_app a.got (s.part, s.data)
            simp only [addA]
            simp only at this
            omega
          · rcases List.mem_or_eq_of_mem_set hx with hx | rfl
            · exact h.each x hx
            · refine ⟨hm.started, hm.parts, hm.flags, h1, h2, ?_⟩
              have := hm.less
              simp only [addA, List.length_append, List.length_cons, List.length_nil]
              omega
        exact hset.sl (room_sub _ _ _ _)
theorem stepA_ok {aa : List Abs} {s : Stp} {B mx lt lim : Int} (h : okA aa B) (hs : okP s) : okA (stepA mx lt lim aa s).2 (B + 320 + s.data.length) := by
  have h1 : okA (aa.dropWhile (oldA s.now lt)) B := h.sl (List.dropWhile_sublist _)
  have h2 := pickA_ok (s := s) h1
  unfold stepA
  generalize pickA (aa.dropWhile (oldA s.now lt)) s = q at *
  obtain ⟨a2, oi⟩ := q
  obtain ⟨h3, h4, h5⟩ := h2
  cases oi with
  | none =>
    simp only at *
    split
    · exact h3.mono (by omega)
    · rename_i hne
      have hnew : okA (a2 ++ [newA s]) (B + 256) := by
        refine ⟨?_, ?_, fun x hx => ?_⟩
        · unfold KDA
          rw [List.pairwise_append]
          refine ⟨h3.kd, by simp, fun x hx y hy => ?_⟩
          simp at hy
          subst hy
          intro e
          exact findA_none_iff _ _ _ _ (h5 trivial) x hx ⟨e.1.symm, e.2.symm⟩
        · rw [sumA_app]
          have := h3.sum
          simp only [sumA, newA, costS]
          omega
        · rcases List.mem_append.1 hx with hx | hx
          · exact h3.each x hx
          · simp at hx
            subst hx
            have := hs.part
            have := hs.parts
            exact ⟨hs.now, ⟨by show 1 ≤ s.parts; omega, by show s.parts ≤ 255; omega⟩, hs.flags, by simp [newA], fun x hx => absurd (show x ∈ ([] : List (Int × List Int)) from hx) (by simp), by show (([] : List (Int × List Int)).length : Int) < s.parts; simp; omega⟩
      have := putA_ok (mx := mx) (lim := lim) (i := a2.length) hnew hs (by simp; rfl) rfl
      exact this.mono (by omega)
  | some i =>
    simp only at *
    obtain ⟨a, ha, hp, hd⟩ := h4 i rfl
    exact (putA_ok (mx := mx) (lim := lim) h3 hs ha hp).mono (by omega)
end Go.Proofs.Qxb6612998aFmt
