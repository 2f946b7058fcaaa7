import Derived.Test.Qxb6612998aFmtHas
namespace Go.Proofs.Qxb6612998aFmt
open Go.RowKit Go.Sort

theorem nq_same {tp te : TypeId} {j : TypeInfo} (w : World) (a : Addr) (hp : Tryf.prog.underlying tp = some (.pointer te)) (hte : Tryf.prog.info? te = some j) :
    (binOp .neq tp (.pointer (some a)) (.pointer (some a))).run Tryf.prog w = .ok (.bool false) w := by
  have h : ∀ d : Nat, (Op.equalIn (d + 1) tp (.pointer (some a)) (.pointer (some a))).run Tryf.prog w = .ok true w := fun d => by
    simp [Op.equalIn, run_underlying hp, sizeOf, typeInfo, hte, run_sameAddr_same]
  simp only [binOp]
  simp [Op.equal, Op.maxDepth, h 9999]
theorem nq_other {tp te : TypeId} {j : TypeInfo} (w : World) {a b : Addr} {ca cb : Array Value} {ta tb : TypeId} (hp : Tryf.prog.underlying tp = some (.pointer te)) (hte : Tryf.prog.info? te = some j) (hsz : j.size ≠ 0)
    (hne : a ≠ b) (ha : w.heap[a.block]? = some (.cells ca ta (0, 0))) (hb : w.heap[b.block]? = some (.cells cb tb (0, 0))) :
    (binOp .neq tp (.pointer (some a)) (.pointer (some b))).run Tryf.prog w = .ok (.bool true) w := by
  have h : ∀ d : Nat, (Op.equalIn (d + 1) tp (.pointer (some a)) (.pointer (some b))).run Tryf.prog w = .ok false w := fun d => by
    simp [Op.equalIn, run_underlying hp, sizeOf, typeInfo, hte, hsz, run_sameAddr_other w hne ha hb]
  simp only [binOp]
  simp [Op.equal, Op.maxDepth, h 9999]
theorem nq63_same (w : World) (a : Addr) : (binOp .neq 63 (.pointer (some a)) (.pointer (some a))).run Tryf.prog w = .ok (.bool false) w := nq_same w a Tryf.underlying63 (j := Tryf.t66) (by kernel_rfl)
theorem nq63_other (w : World) {a b : Addr} {ca cb : Array Value} {ta tb : TypeId} (hne : a ≠ b) (ha : w.heap[a.block]? = some (.cells ca ta (0, 0))) (hb : w.heap[b.block]? = some (.cells cb tb (0, 0))) : (binOp .neq 63 (.pointer (some a)) (.pointer (some b))).run Tryf.prog w = .ok (.bool true) w := nq_other w Tryf.underlying63 (j := Tryf.t66) (by kernel_rfl) (by decide) hne ha hb
theorem eqI_same (w : World) (a : Addr) : (binOp .eql 20 (.iface 39 (.pointer (some a))) (.iface 39 (.pointer (some a)))).run Tryf.prog w = .ok (.bool true) w := run_eql_iface_ptr_same w a Tryf.underlying20 Tryf.underlying39 (i := Tryf.t39) (j := Tryf.t97) (by kernel_rfl) (by kernel_rfl) (by kernel_rfl)
theorem eqI_other (w : World) {a b : Addr} {ca cb : Array Value} {ta tb : TypeId} (hne : a ≠ b) (ha : w.heap[a.block]? = some (.cells ca ta (0, 0))) (hb : w.heap[b.block]? = some (.cells cb tb (0, 0))) : (binOp .eql 20 (.iface 39 (.pointer (some a))) (.iface 39 (.pointer (some b)))).run Tryf.prog w = .ok (.bool false) w := run_eql_iface_ptr_other w Tryf.underlying20 Tryf.underlying39 (i := Tryf.t39) (j := Tryf.t97) (by kernel_rfl) (by kernel_rfl) (by kernel_rfl) (by decide) hne ha hb

/-- A message without its memory. -/
structure Abs where
  port : Int
  seq : Int
  flags : Int
  parts : Int
  started : Int
  got : List (Int × List Int)
def Msg.abs (m : Msg) : Abs := ⟨m.port, m.seq, m.flags, m.parts, m.started, m.got⟩
def sumA : List Abs → Int
  | [] => 0
  | a :: r => costS a.got + sumA r
theorem sumA_map : ∀ ms : List Msg, sumA (ms.map Msg.abs) = sumC ms
  | [] => rfl
  | m :: r => by simp only [List.map_cons, sumA, sumC, sumA_map r]; rfl
def oldA (now lt : Int) (a : Abs) : Bool := !decide (satd (now - a.started) < lt)
theorem dropA (now lt : Int) : ∀ ms : List Msg, (ms.dropWhile (old now lt)).map Msg.abs = (ms.map Msg.abs).dropWhile (oldA now lt)
  | [] => rfl
  | m :: r => by
    have e : oldA now lt m.abs = old now lt m := rfl
    simp only [List.map_cons, List.dropWhile_cons, e]
    cases old now lt m
    · simp
    · simpa using dropA now lt r
def findA (p s : Int) : List Abs → Nat → Option Nat
  | [], _ => none
  | a :: r, i => if p = a.port ∧ s = a.seq then some i else findA p s r (i + 1)
theorem find_none (p s : Int) : ∀ (ms : List Msg) (i : Nat), findA p s (ms.map Msg.abs) i = none → look p s (ms.map Msg.ent) i = none
  | [], _, _ => rfl
  | m :: r, i, h => by
    simp only [List.map_cons, findA, look, Msg.abs, Msg.ent] at *
    by_cases c : p = m.port ∧ s = m.seq
    · rw [if_pos c] at h; cases h
    · rw [if_neg c] at h ⊢; exact find_none p s r (i + 1) h
theorem findA_some (p s : Int) : ∀ (aa : List Abs) (i j : Nat), findA p s aa i = some j → i ≤ j ∧ ∃ h : j - i < aa.length, (aa[j - i]).port = p ∧ (aa[j - i]).seq = s
  | [], _, _, h => by cases h
  | a :: r, i, j, h => by
    simp only [findA] at h
    by_cases c : p = a.port ∧ s = a.seq
    · rw [if_pos c] at h
      injection h with h; subst h
      refine ⟨Nat.le_refl _, ?_⟩
      simp [c.1, c.2]
    · rw [if_neg c] at h
      obtain ⟨h1, h2, h3⟩ := findA_some p s r (i + 1) j h
      have e : j - i = (j - (i + 1)) + 1 := by omega
      refine ⟨by omega, by simp; omega, ?_⟩
      simp only [e, List.getElem_cons_succ]
      exact h3
theorem find_look (p s : Int) : ∀ (ms : List Msg) (i j : Nat), findA p s (ms.map Msg.abs) i = some j → ∃ h : j - i < ms.length, look p s (ms.map Msg.ent) i = some (j, .pointer (some ⟨(ms[j - i]).pA, 0, none⟩))
  | [], _, _, h => by cases h
  | m :: r, i, j, h => by
    simp only [List.map_cons, findA, look, Msg.abs, Msg.ent] at *
    by_cases c : p = m.port ∧ s = m.seq
    · rw [if_pos c] at h ⊢
      injection h with h; subst h
      simp
    · rw [if_neg c] at h ⊢
      obtain ⟨h2, h3⟩ := find_look p s r (i + 1) j h
      have h1 := (findA_some p s _ (i + 1) j h).1
      have e : j - i = (j - (i + 1)) + 1 := by omega
      refine ⟨by simp; omega, ?_⟩
      simp only [e, List.getElem_cons_succ]
      exact h3
/-- The rest of the pending messages once room is made for the i-th. -/
def room (lim : Int) : Nat → Nat → List Abs → List Abs
  | 0, _, aa => aa
  | f + 1, i, aa => if lim < sumA aa then (match i, aa with
    | 0, m :: _ :: r => room lim f 0 (m :: r)
    | 0, aa => aa
    | i + 1, _ :: r => room lim f i r
    | _ + 1, [] => []) else aa
theorem room_keep (lim : Int) (f i : Nat) (aa : List Abs) (h : ¬ lim < sumA aa) : room lim f i aa = aa := by
  cases f with
  | zero => rfl
  | succ f => unfold room; rw [if_neg h]
theorem room_first (lim : Int) (f i : Nat) (a : Abs) (aa : List Abs) (h : lim < sumA (a :: aa)) : room lim (f + 1) (i + 1) (a :: aa) = room lim f i aa := by
  rw [room, if_pos h]
theorem room_second (lim : Int) (f : Nat) (a b : Abs) (aa : List Abs) (h : lim < sumA (a :: b :: aa)) : room lim (f + 1) 0 (a :: b :: aa) = room lim f 0 (a :: aa) := by
  rw [room, if_pos h]
theorem room_one (lim : Int) (f : Nat) (a : Abs) : room lim f 0 [a] = [a] := by
  cases f with
  | zero => rfl
  | succ f => unfold room; split <;> rfl
/-- Two messages of one Reassembly lie apart. -/
theorem RepR.apart {w : World} {K0 R : Nat} {mx lt lim : Int} {ms : List Msg} (h : RepR w K0 R mx lt lim ms) (hk : KD ms) (i j : Nat) (hi : i < ms.length) (hj : j < ms.length) (hne : i < j) : (ms[i]).pA ≠ (ms[j]).pA := by
  obtain ⟨hK, ⟨rfl, h1⟩ | ⟨r, clock, ho, hr, hm, hKr, hKe, hp⟩⟩ := h
  · simp at hi
  · intro e
    have h1 := (hp _ (List.getElem_mem hi)).1
    have h2 := (hp _ (List.getElem_mem hj)).1
    rw [e, h2] at h1
    have hkk := List.pairwise_iff_getElem.1 hk i j hi hj hne
    unfold Msg.pc pcells at h1
    simp at h1
    exact hkk ⟨h1.1.symm, h1.2.1.symm⟩
end Go.Proofs.Qxb6612998aFmt
