import Derived.Test.Qxb6612998aFmtCol
namespace Go.Proofs.Qxb6612998aFmt
open Go.RowKit Go.Sort

/-- A message of the model: where it lies, what it holds. -/
abbrev MM := Nat × Abs
/-- The cells of one message of the model. -/
structure MC (w : World) (a : Abs) (cs : Array Value) : Prop where
  size : cs.size = 520
  port : cs[0]? = some (.int .u16 a.port)
  seq : cs[1]? = some (.int .u16 a.seq)
  defl : cs[2]? = some (.bool (defl a.flags))
  parts : cs[3]? = some (.int .i64 a.parts)
  come : ∀ p : Nat, p < 256 → cs[4 + p]? = some (.bool (come p a.got))
  data : ∀ p : Nat, p < 256 → ∃ v, cs[260 + p]? = some v ∧ BO w v (getA p a.got)
  got : cs[516]? = some (.int .i64 a.got.length)
  len : cs[517]? = some (.int .i64 (lenS a.got))
  cost : cs[518]? = some (.int .i64 (costS a.got))
  started : cs[519]? = some (.int .i64 a.started)
def MP (w : World) (x : MM) : Prop := ∃ cs, w.heap[x.1]? = some (.cells cs 58 (0, 0)) ∧ MC w x.2 cs
def mrow (mx lt lim : Int) (mv : Value) (cost : Int) : Array Value := #[.int .i64 mx, .int .i64 lt, .int .i64 lim, mv, .int .i64 cost]
def ptrM (x : MM) : Value := .pointer (some ⟨x.1, 0, none⟩)
/-- The model at M holds the messages xs, all its memory at K0 or beyond. -/
structure RepM (w : World) (K0 M : Nat) (mx lt lim : Int) (mv : Value) (xs : List MM) : Prop where
  root : w.heap[M]? = some (.cells (mrow mx lt lim mv (sumA (xs.map Prod.snd))) 48 (0, 0))
  base : K0 ≤ M
  own : w.ownsRow K0 59 1 mv xs.length (xs.map ptrM)
  each : ∀ x ∈ xs, K0 ≤ x.1 ∧ MP w x
  nodup : (xs.map Prod.fst).Nodup

theorem MC.keep {w w' : World} {a : Abs} {cs : Array Value} (h : MC w a cs) (hk : ∀ (k : Nat) (cs : Array Value), w.heap[k]? = some (.cells cs 5 (0, 0)) → w'.heap[k]? = w.heap[k]?) : MC w' a cs :=
  ⟨h.size, h.port, h.seq, h.defl, h.parts, h.come, fun p hp => by obtain ⟨v, e, hb⟩ := h.data p hp; exact ⟨v, e, hb.keep hk⟩, h.got, h.len, h.cost, h.started⟩
theorem MP.keep {w w' : World} {x : MM} (h : MP w x) (hk : ∀ (k : Nat) (cs : Array Value) (t : TypeId), w.heap[k]? = some (.cells cs t (0, 0)) → t = 5 ∨ t = 58 → w'.heap[k]? = w.heap[k]?) : MP w' x := by
  obtain ⟨cs, h1, h2⟩ := h
  exact ⟨cs, (hk _ _ _ h1 (Or.inr rfl)).trans h1, h2.keep (fun k cs e => hk k cs 5 e (Or.inl rfl))⟩
/-- The model stays where its rows stay. -/
theorem RepM.keep {w w' : World} {K0 M : Nat} {mx lt lim : Int} {mv : Value} {xs : List MM} (h : RepM w K0 M mx lt lim mv xs) (hk : ∀ (k : Nat) (cs : Array Value) (t : TypeId), w.heap[k]? = some (.cells cs t (0, 0)) → t = 5 ∨ t = 58 ∨ t = 48 ∨ t = 59 → w'.heap[k]? = w.heap[k]?) : RepM w' K0 M mx lt lim mv xs :=
  ⟨(hk _ _ _ h.root (by simp)).trans h.root, h.base, ownsRow_kp h.own (fun k cs e => hk k cs 59 e (by simp)), fun x hx => ⟨(h.each x hx).1, (h.each x hx).2.keep (fun k cs t e ht => hk k cs t e (by rcases ht with rfl | rfl <;> simp))⟩, h.nodup⟩
theorem RepM.below {w w' : World} {K0 M : Nat} {mx lt lim : Int} {mv : Value} {xs : List MM} (h : RepM w K0 M mx lt lim mv xs) (hb : Below w.heap.size w w') : RepM w' K0 M mx lt lim mv xs := h.keep (fun k _ _ e _ => hb.block k (lt_of_heap e))
theorem RepM.frR {w w' : World} {K0 M : Nat} {mx lt lim : Int} {mv : Value} {xs : List MM} (h : RepM w K0 M mx lt lim mv xs) (hf : FrR K0 w w') : RepM w' K0 M mx lt lim mv xs := h.keep (fun k cs t e ht => hf.keep k cs t e (by rcases ht with rfl | rfl | rfl | rfl <;> decide) (by rcases ht with rfl | rfl | rfl | rfl <;> decide) (by rcases ht with rfl | rfl | rfl | rfl <;> decide) (by rcases ht with rfl | rfl | rfl | rfl <;> decide))

/-- What the model's doings leave alone: all below K0, and all but the rows of the types 48, 58, 59. -/
structure FrM (K0 : Nat) (a w : World) : Prop where
  below : Below K0 a w
  keep : ∀ (k : Nat) (o : Obj), a.heap[k]? = some o → (∀ cs t, o = .cells cs t (0, 0) → t ≠ 48 ∧ t ≠ 58 ∧ t ≠ 59) → w.heap[k]? = some o
theorem FrM.trans {K0 : Nat} {a b c : World} (h : FrM K0 a b) (h' : FrM K0 b c) : FrM K0 a c := ⟨h.below.trans h'.below, fun k o e h1 => h'.keep k o (h.keep k o e h1) h1⟩
theorem FrM.of_below {K0 : Nat} {a b : World} (h : Below a.heap.size a b) (hk : K0 ≤ a.heap.size) : FrM K0 a b := ⟨h.mono hk, fun k _ e _ => (h.block k (lt_of_heap e)).trans e⟩
theorem FrM.of_ch {K0 : Nat} {a b : World} {bs : List Nat} (h : Ch bs a b) (hk : K0 ≤ a.heap.size) (hb : ∀ x ∈ bs, K0 ≤ x ∧ ∃ cs t, a.heap[x]? = some (.cells cs t (0, 0)) ∧ (t = 48 ∨ t = 58 ∨ t = 59)) : FrM K0 a b :=
  ⟨h.toBelow hk (fun x hx => (hb x hx).1), fun k o e h1 => (h.block k (lt_of_heap e) (fun hx => by
    obtain ⟨-, cs, t, e1, ht⟩ := hb k hx
    rw [e] at e1
    obtain ⟨q1, q2, q3⟩ := h1 cs t (Option.some.inj e1)
    rcases ht with ht | ht | ht
    · exact q1 ht
    · exact q2 ht
    · exact q3 ht)).trans e⟩
theorem RepR.frM {w w' : World} {K0 R : Nat} {mx lt lim : Int} {ms : List Msg} (h : RepR w K0 R mx lt lim ms) (hf : FrM K0 w w') : RepR w' K0 R mx lt lim ms := by
  have hc : ∀ (k : Nat) (cs : Array Value) (t : TypeId), w.heap[k]? = some (.cells cs t (0, 0)) → t = 70 ∨ t = 66 ∨ t = 97 ∨ t = 105 ∨ t = 5 → w'.heap[k]? = some (.cells cs t (0, 0)) := fun k cs t e ht => hf.keep k _ e (fun cs' t' e' => by
    injection e' with _ e2
    subst e2
    rcases ht with rfl | rfl | rfl | rfl | rfl <;> decide)
  obtain ⟨hK, ⟨h0, h1⟩ | ⟨r, clock, ho, hr, hm, hKr, hKe, hp⟩⟩ := h
  · exact ⟨hK, Or.inl ⟨h0, hc _ _ _ h1 (by simp)⟩⟩
  · refine ⟨hK, Or.inr ⟨r, clock, hc _ _ _ ho (by simp), ⟨hr.1, hr.2.1, fun i h => hc _ _ _ (hr.getE i h) (by simp)⟩, hf.keep _ _ hm (fun cs t e => by cases e), hKr, hKe, fun m hm' => ?_⟩⟩
    obtain ⟨q1, q2, xs, q3, q4⟩ := hp m hm'
    refine ⟨hc _ _ _ q1 (by simp), q2, xs, ownsRow_kp q3 (fun k cs e => (hc _ _ _ e (by simp)).trans e.symm), fun i hi => ?_⟩
    obtain ⟨q5, v, q6, q7⟩ := q4 i hi
    exact ⟨q5, v, q6, q7.keep (fun k cs e => (hc _ _ _ e (by simp)).trans e.symm)⟩
theorem BX.frM {w w' : World} {K0 : Nat} {v : Value} {l : List Int} (h : BX w K0 v l) (hf : FrM K0 w w') : BX w' K0 v l := by
  rcases h with h | h
  · exact Or.inl (h.below hf.below)
  · exact Or.inr (h.keep (fun k cs e => (hf.keep _ _ e (fun cs' t' e' => by
      injection e' with _ e2
      subst e2
      decide)).trans e.symm))

/-- Reading the messages' row. -/
theorem RepM.row {w : World} {K0 M : Nat} {mx lt lim : Int} {mv : Value} {xs : List MM} (h : RepM w K0 M mx lt lim mv xs) (hne : xs ≠ []) : ∃ g cap, mv = .slice (some ⟨g, 0, none⟩) xs.length cap ∧ g < w.heap.size ∧ (∃ cs, w.heap[g]? = some (.cells cs 59 (0, 0))) ∧ ∀ i (hi : i < xs.length), w.cell? ⟨g, i, none⟩ = some (ptrM xs[i]) := by
  obtain ⟨hl, ⟨h1, h2⟩ | ⟨g, cap, cur, e1, e2, e3, e4, e5, e6, e7⟩⟩ := h.own
  · exact absurd (List.length_eq_zero_iff.1 h2) hne
  · refine ⟨g, cap, e1, lt_of_heap e3, ⟨_, e3⟩, fun i hi => ?_⟩
    have q : cur[i]? = some (ptrM xs[i]) := by
      have e : cur[i]? = (cur.toList.take (xs.length * 1))[i]? := by rw [List.getElem?_take, if_pos (by omega)]; simp
      rw [e, e7]
      simp [hi]
    exact (cell_of e3 i).trans q
theorem RepM.shape {w : World} {K0 M : Nat} {mx lt lim : Int} {mv : Value} {xs : List MM} (h : RepM w K0 M mx lt lim mv xs) : ∃ oa c, mv = .slice oa xs.length c := by
  obtain ⟨hl, ⟨h1, h2⟩ | ⟨g, cap, cur, e1, -⟩⟩ := h.own
  · exact ⟨none, 0, by rw [h1, h2]⟩
  · exact ⟨_, _, e1⟩

theorem newModel_any (w : World) (K0 : Nat) (mx lt lim : Int) (hK : K0 ≤ w.heap.size) :
    Calls Tryf.prog 9 #[.int .i64 mx, .int .i64 lt, .int .i64 lim] w fun e w' => ∃ M, e = .returned (.pointer (some ⟨M, 0, none⟩)) ∧ RepM w' K0 M mx lt lim (.slice none 0 0) [] ∧ Gr w w' := by
  go_enter Tryf.func9, Tryf.ntmps9
  go_wp2_with fail
  go_ret
  refine ⟨_, rfl, ⟨?_, hK, World.ownsRow_nil _ _ _ _, by simp, by simp⟩, (Gr.refl w).alloc _⟩
  exact heap_alloc_new w _

/-- What find answers. -/
def findI (p s : Int) (aa : List Abs) : Int := match findA p s aa 0 with
  | some i => (i : Int)
  | none => -1
theorem findA_drop (p s : Int) : ∀ (k : Nat) (aa : List Abs) (i : Nat) (hk : k < aa.length), findA p s (aa.drop k) i = if p = (aa[k]).port ∧ s = (aa[k]).seq then some i else findA p s (aa.drop (k + 1)) (i + 1)
  | k, aa, i, hk => by rw [List.drop_eq_getElem_cons hk, findA]

set_option maxHeartbeats 2000000 in
theorem mfind_any {w : World} {K0 M : Nat} {mx lt lim : Int} {mv : Value} {xs : List MM} (h : RepM w K0 M mx lt lim mv xs) (port seq : Int) (hl : xs.length ≤ 1099511627776) :
    Calls Tryf.prog 13 #[.pointer (some ⟨M, 0, none⟩), .int .u16 port, .int .u16 seq] w fun e w' => e = .returned (.int .i64 (findI port seq (xs.map Prod.snd))) ∧ w' = w := by
  obtain ⟨oa, c, rfl⟩ := h.shape
  have c3 : w.cell? ⟨M, 3, none⟩ = some (.slice oa xs.length c) := cell_of h.root 3
  have H := hide h
  clear h
  go_enter Tryf.func13, Tryf.ntmps13
  go_wp2_with fail
  go_loopg [7] xs.length (fun g kv w' => ∃ k : Nat, g = xs.length - k ∧ k ≤ xs.length ∧ kv = .int .i64 (k : Int) ∧ w' = w ∧ Hid (findA port seq (xs.map Prod.snd) 0 = findA port seq ((xs.map Prod.snd).drop k) k))
  case atStart => exact ⟨0, by omega, Nat.zero_le _, rfl, rfl, rfl⟩
  case round =>
    obtain ⟨k, hg, hk, rfl, rfl, HF⟩ := hrel
    by_cases ck : k < xs.length
    · obtain ⟨g, cap, e1, -, -, hrow⟩ := (unhide H).row (by intro e; rw [e] at ck; simp at ck)
      have hx := hrow k ck
      obtain ⟨cs, hcs, hmc⟩ := ((unhide H).each _ (List.getElem_mem ck)).2
      have p0 : wr.cell? ⟨(xs[k]).1, 0, none⟩ = some (.int .u16 (xs[k]).2.port) := (cell_of hcs 0).trans hmc.port
      have p1 : wr.cell? ⟨(xs[k]).1, 1, none⟩ = some (.int .u16 (xs[k]).2.seq) := (cell_of hcs 1).trans hmc.seq
      have hfd := findA_drop port seq k (xs.map Prod.snd) k (by simpa using ck)
      rw [List.getElem_map] at hfd
      have HFD := hide hfd
      unfold ptrM at hx
      generalize (xs[k]).2.port = pp at *
      generalize (xs[k]).2.seq = ss at *
      generalize (xs[k]).1 = A at *
      have E1 := hide e1
      injection e1 with e1 _ e2
      subst e1
      have z1 : (0 : Int) ≤ (k : Int) := by omega
      have z2 : (k : Int) < (xs.length : Int) := by omega
      have z3 : IntKind.i64.wrap ((k : Int) + 1) = (k : Int) + 1 := by rw [IntKind.wrap_i64]; omega
      clear hrow hcs hmc hfd E1 e2
      by_cases cp : pp = port
      · by_cases cq : ss = seq
        · go_wp2_with fail
          go_ret
          refine ⟨?_, rfl⟩
          rw [findI, unhide HF, unhide HFD, if_pos ⟨cp.symm, cq.symm⟩]
          rfl
        · go_wp2_with fail
          go_roundg (xs.length - (k + 1))
          case measure => omega
          case rel => exact ⟨k + 1, rfl, by omega, by simp, rfl, by rw [unhide HF, unhide HFD, if_neg (fun e => cq e.2.symm)]; rfl⟩
      · go_wp2_with fail
        go_roundg (xs.length - (k + 1))
        case measure => omega
        case rel => exact ⟨k + 1, rfl, by omega, by simp, rfl, by rw [unhide HF, unhide HFD, if_neg (fun e => cp e.1.symm)]; rfl⟩
    · obtain rfl : k = xs.length := by omega
      have z2 : ¬ ((xs.length : Int) < (xs.length : Int)) := by omega
      go_wp2_with fail
      go_ret
      refine ⟨?_, rfl⟩
      rw [findI, unhide HF, List.drop_of_length_le (by simp)]
      rfl
end Go.Proofs.Qxb6612998aFmt
