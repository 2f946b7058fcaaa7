import Derived.Test.Qxb6612998aFmtKit
namespace Go.Proofs.Qxb6612998aFmt
open Go.RowKit Go.Sort

/-- A message's key. -/
def kv (p s : Int) : Value := .agg #[.int .u64 0, .int .u64 0, .pointer none, .int .u16 p, .int .u16 s]
theorem eq76 (d : Nat) (w : World) : (Op.equalIn (d + 2) 76 (.agg #[.pointer none]) (.agg #[.pointer none])).run Tryf.prog w = .ok true w := by
  have hS : Tryf.prog.underlying 76 = some (.struct (Tryf.prog.fieldsOf 76)) := by kernel_rfl
  rw [run_equalIn_agg w (d + 1) 76 _ _ hS (by kernel_rfl)]
  simp only [Program.fieldsOf, Tryf.underlying76]
  simp [Op.eqFields, part, Tryf.isAgg74, Op.equalIn, run_underlying Tryf.underlying74]
theorem eq73 (d : Nat) (w : World) : (Op.equalIn (d + 2) 73 (.agg #[.int .u64 0, .int .u64 0]) (.agg #[.int .u64 0, .int .u64 0])).run Tryf.prog w = .ok true w := by
  have hS : Tryf.prog.underlying 73 = some (.struct (Tryf.prog.fieldsOf 73)) := by kernel_rfl
  rw [run_equalIn_agg w (d + 1) 73 _ _ hS (by kernel_rfl)]
  simp only [Program.fieldsOf, Tryf.underlying73]
  simp [Op.eqFields, part, go_sem, Op.equalIn]
theorem eq78 (d : Nat) (w : World) : (Op.equalIn (d + 3) 78 (.agg #[.int .u64 0, .int .u64 0, .pointer none]) (.agg #[.int .u64 0, .int .u64 0, .pointer none])).run Tryf.prog w = .ok true w := by
  have hS : Tryf.prog.underlying 78 = some (.struct (Tryf.prog.fieldsOf 78)) := by kernel_rfl
  have h1 := eq73 d
  have h2 := eq76 d
  rw [run_equalIn_agg w (d + 2) 78 _ _ hS (by kernel_rfl)]
  simp only [Program.fieldsOf, Tryf.underlying78]
  simp [Op.eqFields, part, Tryf.isAgg73, Tryf.isAgg76, Tryf.sizeOf73, Tryf.sizeOf76, h1, h2]
theorem eq31 (d : Nat) (a b : Int) (w : World) : (Op.equalIn (d + 1) 31 (.int .u16 a) (.int .u16 b)).run Tryf.prog w = .ok (a == b) w := by
  simp [Op.equalIn, run_underlying Tryf.underlying31]
theorem eq80 (d : Nat) (p p' : Int) (w : World) : (Op.equalIn (d + 4) 80 (.agg #[.int .u64 0, .int .u64 0, .pointer none, .int .u16 p]) (.agg #[.int .u64 0, .int .u64 0, .pointer none, .int .u16 p'])).run Tryf.prog w = .ok (p == p') w := by
  have hS : Tryf.prog.underlying 80 = some (.struct (Tryf.prog.fieldsOf 80)) := by kernel_rfl
  have h1 := eq78 d
  have h2 := eq31 (d + 2) p p'
  rw [run_equalIn_agg w (d + 3) 80 _ _ hS (by kernel_rfl)]
  simp only [Program.fieldsOf, Tryf.underlying80]
  simp [Op.eqFields, part, Tryf.isAgg78, Tryf.sizeOf78, Tryf.isAgg31, h1, h2]
  by_cases h : p = p' <;> simp [h]
theorem eqKey (d : Nat) (p s p' s' : Int) (w : World) : (Op.equalIn (d + 5) 83 (kv p s) (kv p' s')).run Tryf.prog w = .ok (decide (p = p' ∧ s = s')) w := by
  have hS : Tryf.prog.underlying 83 = some (.struct (Tryf.prog.fieldsOf 83)) := by kernel_rfl
  have h1 := eq80 d p p'
  have h2 := eq31 (d + 3) s s'
  unfold kv
  rw [run_equalIn_agg w (d + 4) 83 _ _ hS (by kernel_rfl)]
  simp only [Program.fieldsOf, Tryf.underlying83]
  simp [Op.eqFields, part, Tryf.isAgg80, Tryf.sizeOf80, Tryf.isAgg31, h1, h2]
  by_cases h : p = p' <;> by_cases h' : s = s' <;> simp [h, h']

/-- An entry of the map: port, seq, the message's block, its stamp. -/
structure Ent where
  p : Int
  s : Int
  a : Nat
  born : Nat
def Ent.me (e : Ent) : MapEntry := { key := kv e.p e.s, val := .pointer (some ⟨e.a, 0, none⟩), born := e.born }
/-- What a search finds. -/
def look (p s : Int) : List Ent → Nat → Option (Nat × Value)
  | [], _ => none
  | e :: r, i => if p = e.p ∧ s = e.s then some (i, .pointer (some ⟨e.a, 0, none⟩)) else look p s r (i + 1)
theorem asking (p s : Int) (w : World) : ∀ (l : List Ent) (i : Nat), (Instr.findAsking 83 (kv p s) (l.map Ent.me) i).run Tryf.prog w = .ok (look p s l i) w
  | [], i => rfl
  | e :: r, i => by
    have h := eqKey 9995 p s e.p e.s w
    have ih := asking p s w r (i + 1)
    simp only [List.map_cons, Instr.findAsking, Op.equal, Op.maxDepth, Sem.run_bind, Ent.me, h, Result.andThen_ok, look]
    by_cases c : p = e.p ∧ s = e.s
    · simp [c]
    · simp only [c, decide_false, Bool.false_eq_true, if_false]
      exact ih
theorem findKey_run (p s : Int) (l : List Ent) (w : World) : (Instr.findKey 83 (kv p s) (l.map Ent.me)).run Tryf.prog w = .ok (look p s l 0) w := by
  have h := asking p s w l 0
  cases l with
  | nil => simp [Instr.findKey, run_underlying Tryf.underlying83, Instr.findNow, look]
  | cons e r =>
    have hn : Instr.findNow (.struct (Tryf.prog.fieldsOf 83)) (kv p s) ((e :: r).map Ent.me) 0 = none := by simp [Instr.findNow, Instr.sameNow, kv, Ent.me]
    have hS : Tryf.prog.underlying 83 = some (.struct (Tryf.prog.fieldsOf 83)) := by kernel_rfl
    simp only [Instr.findKey, Sem.run_bind, run_underlying hS, Result.andThen_ok, hn]
    exact h
theorem ckLeaf (b : Bool) (n : Nat) (t : TypeId) (d : TypeDesc) (v : Value) (w : World) (ht : Tryf.prog.underlying t = some d) (hd : (∃ k, d = .int k) ∨ ∃ e, d = .pointer e) : (Instr.checkKey b (n + 1) t v).run Tryf.prog w = .ok () w := by
  rcases hd with ⟨k, rfl⟩ | ⟨e, rfl⟩ <;> simp [Instr.checkKey, run_underlying ht]
theorem ck76 (b : Bool) (n : Nat) (w : World) : (Instr.checkKey b (n + 2) 76 (.agg #[.pointer none])).run Tryf.prog w = .ok () w := by
  simp [Instr.checkKey, run_underlying Tryf.underlying76, part, Tryf.isAgg74, run_underlying Tryf.underlying74]
theorem ck73 (b : Bool) (n : Nat) (w : World) : (Instr.checkKey b (n + 2) 73 (.agg #[.int .u64 0, .int .u64 0])).run Tryf.prog w = .ok () w := by
  simp [Instr.checkKey, run_underlying Tryf.underlying73, part, Tryf.isAgg71, run_underlying Tryf.underlying71]
theorem ck78 (b : Bool) (n : Nat) (w : World) : (Instr.checkKey b (n + 3) 78 (.agg #[.int .u64 0, .int .u64 0, .pointer none])).run Tryf.prog w = .ok () w := by
  have h1 := ck73 b n
  have h2 := ck76 b n
  unfold Instr.checkKey
  simp [run_underlying Tryf.underlying78, part, Tryf.isAgg73, Tryf.isAgg76, Tryf.sizeOf73, Tryf.sizeOf76, h1, h2]
theorem ck80 (b : Bool) (n : Nat) (p : Int) (w : World) : (Instr.checkKey b (n + 4) 80 (.agg #[.int .u64 0, .int .u64 0, .pointer none, .int .u16 p])).run Tryf.prog w = .ok () w := by
  have h1 := ck78 b n
  have h2 := fun W => ckLeaf b (n + 2) 31 _ (.int .u16 p) W Tryf.underlying31 (Or.inl ⟨_, rfl⟩)
  unfold Instr.checkKey
  simp [run_underlying Tryf.underlying80, part, Tryf.isAgg78, Tryf.isAgg31, Tryf.sizeOf78, h1, h2]
theorem checkKey_run (b : Bool) (p s : Int) (w : World) : (Instr.checkKey b 10000 83 (kv p s)).run Tryf.prog w = .ok () w := by
  rw [show (10000 : Nat) = 9995 + 5 from rfl]
  have h1 := ck80 b 9995 p
  have h2 := fun W => ckLeaf b (9995 + 3) 31 _ (.int .u16 s) W Tryf.underlying31 (Or.inl ⟨_, rfl⟩)
  generalize 9995 = n at *
  unfold kv Instr.checkKey
  simp [run_underlying Tryf.underlying83, part, Tryf.isAgg80, Tryf.isAgg31, Tryf.sizeOf80, h1, h2]

theorem getObj_run {w : World} {r : Nat} {es : Array MapEntry} {c : Nat} (h : w.heap[r]? = some (.map es c)) : (getObj r).run Tryf.prog w = .ok (.map es c) w := by simp [getObj, Sem.run, h]
/-- An object put in a block's place. -/
def putM (w : World) (r : Nat) (o : Obj) : World := { w with heap := w.heap.setIfInBounds r o }
theorem setObj_run {w : World} {r : Nat} {es : Array MapEntry} {c : Nat} (o' : Obj) (h : w.heap[r]? = some (.map es c)) : (setObj r o').run Tryf.prog w = .ok () (putM w r o') := by simp [setObj, Sem.run, h, putM]
theorem putM_same {w : World} {r : Nat} {o : Obj} (o' : Obj) (h : w.heap[r]? = some o) : (putM w r o').heap[r]? = some o' := by
  have : r < w.heap.size := by
    rcases Nat.lt_or_ge r w.heap.size with h' | h'
    · exact h'
    · rw [Array.getElem?_eq_none h'] at h; cases h
  simp [putM, this]
theorem putM_other (w : World) (r : Nat) (o' : Obj) (k : Nat) (h : k ≠ r) : (putM w r o').heap[k]? = w.heap[k]? := by
  simp [putM, Ne.symm h]
theorem putM_size (w : World) (r : Nat) (o' : Obj) : (putM w r o').heap.size = w.heap.size := by simp [putM]
/-- The map in memory. -/
def MapIs (w : World) (mp : Option Nat) (l : List Ent) : Prop := (mp = none ∧ l = []) ∨ ∃ r clock, mp = some r ∧ w.heap[r]? = some (.map (l.map Ent.me).toArray clock)
def lookV (p s : Int) (l : List Ent) : Value := match look p s l 0 with | some x => x.2 | none => .pointer none
theorem lookup_run (w : World) (mp : Option Nat) (l : List Ent) (p s : Int) (h : MapIs w mp l) : (Instr.lookup 62 (.map mp) (kv p s) false).run Tryf.prog w = .ok (lookV p s l) w := by
  have hf := findKey_run p s l w
  have hz : ∀ w, (zeroValue 39).run Tryf.prog w = .ok (.pointer none) w := Tryf.zeroValue39
  rcases h with ⟨rfl, rfl⟩ | ⟨r, clock, rfl, hr⟩
  · have hk := checkKey_run true p s w
    simp only [List.map_nil] at hf
    simp [Instr.lookup, run_underlying Tryf.underlying62, hk, hf, look, lookV, hz]
  · have hk := fun b => checkKey_run b p s w
    simp only [Instr.lookup, Sem.run_bind, run_underlying Tryf.underlying62, Result.andThen_ok]
    have hg : (getObj r).run Tryf.prog w = .ok (.map (l.map Ent.me).toArray clock) w := getObj_run hr
    simp [hg, hk, hf, lookV]
    cases look p s l 0 with
    | none => simp [hz]
    | some x => simp

theorem look_add (p s : Int) : ∀ (l : List Ent) (i : Nat) (x : Nat × Value), look p s l i = some x → i ≤ x.1 ∧ x.1 < i + l.length
  | [], _, _, h => by simp [look] at h
  | e :: r, i, x, h => by
    simp only [look] at h
    split at h
    · cases h; simp
    · have := look_add p s r (i + 1) x h
      simp; omega
theorem erase_map : ∀ (l : List Ent) (i : Nat), (l.map Ent.me).eraseIdx i = (l.eraseIdx i).map Ent.me
  | [], _ => rfl
  | _ :: _, 0 => rfl
  | e :: r, i + 1 => by simp [List.eraseIdx, erase_map r i]
theorem delete_run (w : World) (r clock : Nat) (l : List Ent) (p s : Int) (i : Nat) (v : Value) (ty : TypeId) (hr : w.heap[r]? = some (.map (l.map Ent.me).toArray clock)) (hl : look p s l 0 = some (i, v)) :
    (Builtin.delete_ #[62, 83] ty #[.map (some r), kv p s]).run Tryf.prog w = .ok (.tuple #[]) (putM w r (.map ((l.eraseIdx i).map Ent.me).toArray clock)) := by
  have hf := findKey_run p s l w
  have hk := fun b => checkKey_run b p s w
  rw [hl] at hf
  simp [Builtin.delete_, run_underlying Tryf.underlying62, getObj_run hr, hk, hf, setObj_run _ hr, erase_map]
theorem update_run (w : World) (r clock : Nat) (l : List Ent) (p s : Int) (a : Nat) (hr : w.heap[r]? = some (.map (l.map Ent.me).toArray clock)) (hl : look p s l 0 = none) :
    (Instr.mapUpdate 62 (.map (some r)) (kv p s) (.pointer (some ⟨a, 0, none⟩))).run Tryf.prog w = .ok () (putM w r (.map ((l ++ [(⟨p, s, a, clock⟩ : Ent)]).map Ent.me).toArray (clock + 1))) := by
  have hf := findKey_run p s l w
  have hk := fun b => checkKey_run b p s w
  rw [hl] at hf
  simp [Instr.mapUpdate, run_underlying Tryf.underlying62, getObj_run hr, hk, hf, setObj_run _ hr, Ent.me]
end Go.Proofs.Qxb6612998aFmt
