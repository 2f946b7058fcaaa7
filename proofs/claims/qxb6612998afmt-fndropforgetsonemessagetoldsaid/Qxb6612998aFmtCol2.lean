import Derived.Test.Qxb6612998aFmtCol
namespace Go.Proofs.Qxb6612998aFmt
open Go.RowKit Go.Sort Go.Extern.Stop Go.Stop Go.Extern

def box80 (port : Int) : Array Value := #[.int .u64 0, .int .u64 0, .pointer none, .int .u16 port]
theorem okS_of {ms : List Msg} {B : Int} (h : okA (ms.map Msg.abs) B) (hB : B ≤ 1099511627776) : okS ms := by
  have h1 := h.sum
  have h2 := sumA_len (ms.map Msg.abs)
  rw [sumA_map] at h1 h2
  rw [List.length_map] at h2
  refine ⟨List.pairwise_map.1 h.kd, by omega, by omega, fun m hm => (h.each m.abs (List.mem_map.2 ⟨m, hm, rfl⟩)).started⟩
theorem RepR.mapIs {w : World} {K0 R : Nat} {mx lt lim : Int} {ms : List Msg} (h : RepR w K0 R mx lt lim ms) : ∃ mp rn rp, Root w R mx lt lim mp rn rp (ms.length : Int) (sumC ms) ∧ MapIs w mp (ms.map Msg.ent) := by
  obtain ⟨hK, ⟨rfl, h1⟩ | ⟨r, clock, ho, hr, hm, hKr, hKe, hp⟩⟩ := h
  · exact ⟨none, none, none, h1, Or.inl ⟨rfl, rfl⟩⟩
  · exact ⟨_, _, _, ho, Or.inr ⟨r, clock, rfl, hm⟩⟩
theorem MapIs.draw {w : World} {mp : Option Nat} {l : List Ent} (h : MapIs w mp l) (n : Nat) : MapIs (w.drewN n) mp l := h
/-- What collect leaves. -/
def Coll (w : World) (K0 R : Nat) (mx lt lim : Int) (ans : Ans × List Abs) (e : Ending) (w' : World) : Prop := ∃ v er ms', e = .returned (.tuple #[v, .bool ans.1.2.1, er]) ∧ BX w' K0 v ans.1.1 ∧ ((ans.1.2.2 = true ∧ ∃ t u, er = .iface t u) ∨ (ans.1.2.2 = false ∧ er = .nilIface)) ∧ RepR w' K0 R mx lt lim ms' ∧ GD ms' ∧ ms'.map Msg.abs = ans.2 ∧ FrR K0 w w'
/-- The held message that the datagram goes to. -/
def ptrOf (ms : List Msg) (oi : Option Nat) : Value := match oi with
  | none => .pointer none
  | some i => match ms[i]? with
    | some m => .pointer (some ⟨m.pA, 0, none⟩)
    | none => .pointer none

theorem info105 : (Tryf.prog.info? 105).map (fun i => (i.zero, i.size, i.bytes)) = some (some (.agg #[.int .i64 0, .slice none 0 0]), 2, 32) := by kernel_rfl
theorem step_call1 {P : Program} {ops : Array Oper} {o : Oper} {a : Act} {w : World} {K : Act → World → Prop} {Q : Exit → Act → World → Prop} {E : Prop} (hgd : o.guard = none) (x : Operand) (n : Nat) (tys : Array TypeId) (ho : o.op = .call { callee := .value (.func n), args := #[x], argTypes := tys }) (v : Value) (hx : a.eval x = v)
    (hen : ∀ args w, (callFunc n args).run P w = .ok (.enter n args) w) {Post : Value → World → Prop} (hc : Calls P n #[v] w fun e w' => ∃ u, e = .returned u ∧ Post u w') (h : ∀ u w', Post u w' → K (a.put o.dst u) w') :
    if Region.wanted o (yielded ops a.tmps) = true then Oper.wp P o a w K Q else E := by
  have hw : Region.wanted o (yielded ops a.tmps) = true := by simp [Region.wanted, hgd]
  rw [if_pos hw]
  unfold Oper.wp
  have e : (execOp a.eval o).run P w = .ok (.enter n #[v]) w := by
    have ef : a.eval (.func n) = .func (.func n) #[] #[] := rfl
    simp [execOp, ho, resolve, Deferred.ofValue, invoke, hx, ef, hen]
  rw [e]
  refine Calls.mono hc ?_
  rintro e w' ⟨u, rfl, hu⟩
  exact h u w' hu
theorem enters37 : ∀ args w, (callFunc 37 args).run Tryf.prog w = .ok (.enter 37 args) w := enters_of Tryf.func37 (by kernel_rfl) rfl
theorem pc_put (m : Msg) (v' : Value) (part : Int) (data : List Int) (n : Nat) (hn : part = n) (hn1 : n < 256) : ((((m.pc.setIfInBounds 7 v').setIfInBounds (8 + n / 64) (.int .u64 ((bitN (n / 64 : Nat) m.got ||| 2 ^ (n % 64) : Nat) : Int))).setIfInBounds 12 (.int .i64 (lenS m.got + data.length))).setIfInBounds 13 (.int .i64 (costS m.got + (64 + data.length)))) = ({ m with got := m.got ++ [(part, data)], gv := v' } : Msg).pc := by
  have h1 := lenS_app m.got (part, data)
  have h2 := costS_app m.got (part, data)
  have e2 : part % 64 = ((n % 64 : Nat) : Int) := by omega
  have hk : n / 64 = 0 ∨ n / 64 = 1 ∨ n / 64 = 2 ∨ n / 64 = 3 := by omega
  have b0 := bitN_app 0 m.got (part, data)
  have b1 := bitN_app 1 m.got (part, data)
  have b2 := bitN_app 2 m.got (part, data)
  have b3 := bitN_app 3 m.got (part, data)
  have e1 : part / 64 = ((n / 64 : Nat) : Int) := by omega
  simp only at h1 h2 b0 b1 b2 b3
  rw [e1, e2, Int.toNat_natCast] at b0 b1 b2 b3
  have e3 : costS (m.got ++ [(part, data)]) = costS m.got + (64 + data.length) := by omega
  unfold Msg.pc
  simp only [bitS, b0, b1, b2, b3, h1, e3]
  rcases hk with hk | hk | hk | hk <;> rw [hk] <;> simp [pcells]
theorem RepR.but {w w' : World} {K0 R : Nat} {mx lt lim : Int} {ms : List Msg} (h : RepR w K0 R mx lt lim ms) (g : Option Nat) (hg : ∀ k, g = some k → ∃ cs, w.heap[k]? = some (.cells cs 105 (0, 0))) (hne : ∀ m ∈ ms, ∀ k, m.gv.ownBlock = some k → some k ≠ g)
    (hb : ∀ k, k < w.heap.size → some k ≠ g → w'.heap[k]? = w.heap[k]?) : RepR w' K0 R mx lt lim ms := by
  have hs : ∀ (k : Nat) (o : Obj), w.heap[k]? = some o → (∀ cs, o ≠ .cells cs 105 (0, 0)) → w'.heap[k]? = some o := fun k o e hn => (hb k (lt_of_heap e) (fun c => by
    obtain ⟨cs, e1⟩ := hg k c.symm
    rw [e] at e1
    exact hn cs (Option.some.inj e1))).trans e
  have nt : ∀ (cs cs' : Array Value) (t : TypeId), t ≠ 105 → (Obj.cells cs t (0, 0) : Obj) ≠ .cells cs' 105 (0, 0) := fun cs cs' t ht e => ht (by injection e)
  obtain ⟨hK, ⟨h0, h1⟩ | ⟨r, clock, ho, hr, hm, hKr, hKe, hp⟩⟩ := h
  · exact ⟨hK, Or.inl ⟨h0, hs _ _ h1 (fun cs => nt _ _ _ (by decide))⟩⟩
  · refine ⟨hK, Or.inr ⟨r, clock, hs _ _ ho (fun cs => nt _ _ _ (by decide)), ⟨hr.1, hr.2.1, fun i h => hs _ _ (hr.getE i h) (fun cs => nt _ _ _ (by decide))⟩, hs _ _ hm (fun cs e => by cases e), hKr, hKe, fun m hm' => ?_⟩⟩
    obtain ⟨q1, q2, xs, q3, q4⟩ := hp m hm'
    refine ⟨hs _ _ q1 (fun cs => nt _ _ _ (by decide)), q2, xs, ?_, fun i hi => ?_⟩
    · obtain ⟨l1, q3 | ⟨g', cap, cur, e1, e2, e3, e4⟩⟩ := q3
      · exact ⟨l1, Or.inl q3⟩
      · exact ⟨l1, Or.inr ⟨g', cap, cur, e1, e2, (hb g' (lt_of_heap e3) (hne m hm' g' (by rw [e1]; rfl))).trans e3, e4⟩⟩
    · obtain ⟨q5, v, q6, q7⟩ := q4 i hi
      exact ⟨q5, v, q6, q7.keep (fun k cs e => (hs _ _ e (fun cs' => nt _ _ _ (by decide))).trans e.symm)⟩
theorem okS_set {ms : List Msg} {B : Int} (h : okA (ms.map Msg.abs) B) (i : Nat) (hi : i < ms.length) (M : Msg) (h1 : M.port = (ms[i]).port) (h2 : M.seq = (ms[i]).seq) (h3 : M.started = (ms[i]).started) (hS : sumC (ms.set i M) ≤ 1099511627776) (hB : B ≤ 1099511627776) : okS (ms.set i M) := by
  have q := okS_of h hB
  refine ⟨?_, hS, by rw [List.length_set]; exact q.2.2.1, fun x hx => ?_⟩
  · have e : (ms.set i M).map (fun m => (m.port, m.seq)) = ms.map (fun m => (m.port, m.seq)) := by
      rw [List.map_set, show (M.port, M.seq) = (ms.map (fun m => (m.port, m.seq)))[i]'(by simpa using hi) by simp [h1, h2], List.set_getElem_self]
    have k1 : (ms.map (fun m => (m.port, m.seq))).Pairwise (fun a b => ¬ (a.1 = b.1 ∧ a.2 = b.2)) := List.pairwise_map.2 q.1
    rw [← e] at k1
    exact List.pairwise_map.1 k1
  · rcases List.mem_or_eq_of_mem_set hx with hx | hx
    · exact q.2.2.2 x hx
    · rw [hx, h3]; exact q.2.2.2 _ (List.getElem_mem hi)
theorem gd_erase {ms : List Msg} (h : GD ms) (i : Nat) (hi : i < ms.length) : ∀ x ∈ ms.eraseIdx i, ∀ k, x.gv.ownBlock = some k → some k ≠ (ms[i]).gv.ownBlock := fun x hx k hk e => by
  obtain ⟨j, hj, hne, rfl⟩ := List.mem_eraseIdx_iff_getElem.1 hx
  have hpw := List.pairwise_iff_getElem.1 h
  rcases Nat.lt_or_gt_of_ne hne with c | c
  · exact hpw j i hj hi c k hk e.symm
  · exact hpw i j hi hj c k e.symm hk
def restA (mx lim : Int) (q : List Abs × Option Nat) (s : Stp) : Ans × List Abs := match q with
  | (a2, none) => if s.parts = 1 then ((s.data, true, false), a2) else putA mx lim (a2 ++ [newA s]) a2.length s
  | (a2, some i) => putA mx lim a2 i s
theorem stepA_rest (mx lt lim : Int) (aa : List Abs) (s : Stp) : stepA mx lt lim aa s = restA mx lim (pickA (aa.dropWhile (oldA s.now lt)) s) s := rfl
/-- The held message is of another kind. -/
def badA (a1 : List Abs) (s : Stp) : Bool := match findA s.port s.seq a1 0 with
  | none => false
  | some i => match a1[i]? with
    | some a => !(decide (a.parts = s.parts) && (defl a.flags == defl s.flags))
    | none => false
theorem Part.cells {w : World} {K0 : Nat} {m : Msg} (h : Part w K0 m) : w.cell? ⟨m.pA, 5, none⟩ = some (.int .u8 m.flags) ∧ w.cell? ⟨m.pA, 6, none⟩ = some (.int .i64 m.parts) ∧ w.cell? ⟨m.pA, 7, none⟩ = some m.gv ∧ w.cell? ⟨m.pA, 12, none⟩ = some (.int .i64 (lenS m.got)) ∧ w.cell? ⟨m.pA, 13, none⟩ = some (.int .i64 (costS m.got)) := ⟨cell_of h.1 5, cell_of h.1 6, cell_of h.1 7, cell_of h.1 12, cell_of h.1 13⟩

theorem FrR.gr {K0 : Nat} {a b c : World} (h : FrR K0 a b) (g : Gr b c) (hk : K0 ≤ a.heap.size) : FrR K0 a c := h.trans (FrR.of_gr g (Nat.le_trans hk h.below.size))
theorem erase_abs (ms : List Msg) (j : Nat) : (ms.map Msg.abs).eraseIdx j = (ms.eraseIdx j).map Msg.abs := (map_erase Msg.abs ms j).symm

theorem gd_new {ms : List Msg} {m : Msg} (h : GD ms) (hm : m.gv = .slice none 0 0) : GD (ms ++ [m]) := by
  unfold GD
  rw [List.pairwise_append]
  refine ⟨h, by simp, fun a _ b hb k _ e => ?_⟩
  simp at hb
  subst hb
  rw [hm] at e
  cases e
theorem newA_ok {a2 : List Abs} {s : Stp} {B : Int} (h3 : okA a2 B) (hs : okP s) (h5 : findA s.port s.seq a2 0 = none) : okA (a2 ++ [newA s]) (B + 256) := by
  refine ⟨?_, ?_, fun x hx => ?_⟩
  · unfold KDA
    rw [List.pairwise_append]
    refine ⟨h3.kd, by simp, fun x hx y hy => ?_⟩
    simp at hy
    subst hy
    intro e
    exact findA_none_iff _ _ _ _ h5 x hx ⟨e.1.symm, e.2.symm⟩
  · rw [sumA_app]
    have := h3.sum
    simp only [sumA, newA, costS]
    omega
  · rcases List.mem_append.1 hx with hx | hx
    · exact h3.each x hx
    · simp at hx
      subst hx
      have := hs.part
      have := hs.parts
      exact ⟨hs.now, ⟨by show 1 ≤ s.parts; omega, by show s.parts ≤ 255; omega⟩, hs.flags, by simp [newA], fun x hx => absurd (show x ∈ ([] : List (Int × List Int)) from hx) (by simp), by show (([] : List (Int × List Int)).length : Int) < s.parts; simp; omega⟩

set_option maxHeartbeats 8000000 in
set_option maxRecDepth 20000 in
theorem collect_any (F : Interp) (w : World) (K0 R : Nat) (mx lt lim : Int) (ms : List Msg) (s : Stp) (oa : Option Addr) (dc : Nat) (B : Int) (hF : F.answers w.tape) (hK0 : K0 ≤ w.heap.size) (h : RepR w K0 R mx lt lim ms) (hgd : GD ms) (hok : okA (ms.map Msg.abs) B) (hB : B ≤ 8388608) (hs : okP s) (hv : BI w K0 (.slice oa s.data.length dc) s.data) :
    Calls Tryf.prog 29 #[.pointer (some ⟨R, 0, none⟩), .agg (box80 s.port), .agg (boxD s.flags s.seq s.part s.parts oa s.data.length dc), .agg (boxT (s.now % 1000000000) (s.now / 1000000000))] w (Coll w K0 R mx lt lim (stepA mx lt lim (ms.map Msg.abs) s)) := by
  obtain ⟨tn, htn⟩ : ∃ t, t = s.now % 1000000000 := ⟨_, rfl⟩
  obtain ⟨ts, hts⟩ : ∃ t, t = s.now / 1000000000 := ⟨_, rfl⟩
  rw [← htn, ← hts]
  obtain ⟨W0, hW0⟩ : ∃ W, W = ((w.alloc (.cells (box80 s.port) 80)).alloc (.cells (boxD s.flags s.seq s.part s.parts oa s.data.length dc) 89)).alloc (.cells (boxT tn ts) 92) := ⟨_, rfl⟩
  have hs1 : (w.alloc (.cells (box80 s.port) 80)).heap.size = w.heap.size + 1 := by simp
  have hs2 : ((w.alloc (.cells (box80 s.port) 80)).alloc (.cells (boxD s.flags s.seq s.part s.parts oa s.data.length dc) 89)).heap.size = w.heap.size + 2 := by simp
  have hb0 : Below w.heap.size w W0 := by rw [hW0]; exact (((Below.refl _ _).alloc (Nat.le_refl _) _).alloc (by simp) _).alloc (by simp; omega) _
  have kB : W0.heap[w.heap.size]? = some (.cells (box80 s.port) 80 (0, 0)) := by
    rw [hW0, Below.heap_alloc _ _ _ (by rw [hs2]; omega), Below.heap_alloc _ _ _ (by rw [hs1]; omega)]; exact heap_alloc_new _ _
  have kD : W0.heap[w.heap.size + 1]? = some (.cells (boxD s.flags s.seq s.part s.parts oa s.data.length dc) 89 (0, 0)) := by
    rw [hW0, Below.heap_alloc _ _ _ (by rw [hs2]; omega), ← hs1]; exact heap_alloc_new _ _
  have kT : W0.heap[w.heap.size + 2]? = some (.cells (boxT tn ts) 92 (0, 0)) := by rw [hW0, ← hs2]; exact heap_alloc_new _ _
  have FR0 : Hid (FrR K0 w W0) := FrR.of_below hb0 hK0
  have K33 := hide (expire_any W0 K0 R mx lt lim ms s.now (h.below hb0) (okS_of hok (by omega)) hs.now (Nat.le_trans hK0 hb0.size))
  rw [← htn, ← hts] at K33
  have HTN := hide htn
  have HTS := hide hts
  have HW0 := hide hW0
  have HKB := hide kB
  have HKD := hide kD
  have HKT := hide kT
  have HF := hide hF
  have HOK := hide hok
  have HS := hide hs
  have HV := hide hv
  have HG := hide hgd
  have HK0 := hide (And.intro hK0 (And.intro hb0.size hB))
  have t0 : W0.cell? ⟨w.heap.size + 2, 0, none⟩ = some (.int .u64 tn) := cell_of kT 0
  have t1 : W0.cell? ⟨w.heap.size + 2, 1, none⟩ = some (.int .i64 ts) := cell_of kT 1
  have t2 : W0.cell? ⟨w.heap.size + 2, 2, none⟩ = some (.pointer none) := cell_of kT 2
  clear h hgd hok hs hv hF htn hts hW0 hb0 kB kD kT hs1 hs2 hK0 hB
  unfold box80 boxD boxT at HW0 ⊢
  go_enter Tryf.func29, Tryf.ntmps29
  go_upto_region 1 with fail
  rw [← unhide HW0]
  go_upto_region 2 with (go_at_call 33; refine Calls.mono (unhide K33) ?_; rintro e w1 ⟨rfl, r1, k1, l1⟩)
  obtain ⟨ms1, hms1⟩ : ∃ m, m = ms.dropWhile (old s.now lt) := ⟨_, rfl⟩
  rw [← hms1] at r1
  have ok1 : okA (ms1.map Msg.abs) B := by rw [hms1, dropA]; exact (unhide HOK).sl (List.dropWhile_sublist _)
  have gd1 : GD ms1 := by rw [hms1]; exact List.Pairwise.sublist (List.dropWhile_sublist _) (unhide HG)
  have STE : Hid (stepA mx lt lim (ms.map Msg.abs) s = restA mx lim (pickA (ms1.map Msg.abs) s) s) := by rw [stepA_rest, ← dropA, ← hms1]; exact rfl
  have bK := (k1 _ _ _ (unhide HKB) (by decide) (by decide)).trans (unhide HKB)
  have bD := (k1 _ _ _ (unhide HKD) (by decide) (by decide)).trans (unhide HKD)
  have bT := (k1 _ _ _ (unhide HKT) (by decide) (by decide)).trans (unhide HKT)
  have x0 : w1.cell? ⟨w.heap.size, 0, none⟩ = some (.int .u64 0) := cell_of bK 0
  have x1 : w1.cell? ⟨w.heap.size, 1, none⟩ = some (.int .u64 0) := cell_of bK 1
  have x2 : w1.cell? ⟨w.heap.size, 2, none⟩ = some (.pointer none) := cell_of bK 2
  have x3 : w1.cell? ⟨w.heap.size, 3, none⟩ = some (.int .u16 s.port) := cell_of bK 3
  have x4 : w1.cell? ⟨w.heap.size + 1, 1, none⟩ = some (.int .u16 s.seq) := cell_of bD 1
  have lB := lt_of_heap bK
  have lD := lt_of_heap bD
  have lT := lt_of_heap bT
  have FR1 : Hid (FrR K0 w w1) := (unhide FR0).trans (FrR.of_kp k1 l1)
  have R1 := hide r1
  have OK1 := hide ok1
  have GD1 := hide gd1
  have BK := hide bK
  have BD := hide bD
  have BT := hide bT
  clear r1 k1 l1 ok1 gd1 hms1 bK bD bT K33 t0 t1 t2 HKB HKD HKT HW0 HOK HG FR0
  go_upto_region 3 with fail
  obtain ⟨W2, hW2⟩ : ∃ W, W = w1.alloc (.cells #[.int .u64 0, .int .u64 0, .pointer none, .int .u16 s.port, .int .u16 s.seq] 83) := ⟨_, rfl⟩
  rw [← hW2]
  have hb2 : Below w1.heap.size w1 W2 := by rw [hW2]; exact (Below.refl _ _).alloc (Nat.le_refl _) _
  have bY : W2.heap[w1.heap.size]? = some (.cells (boxK s.port s.seq) 83 (0, 0)) := by rw [hW2]; exact heap_alloc_new _ _
  have r2 := (unhide R1).below hb2
  have bD2 := (hb2.block _ lD).trans (unhide BD)
  have bT2 := (hb2.block _ lT).trans (unhide BT)
  obtain ⟨mp, rn, rp, hroot, hmap⟩ := r2.mapIs
  obtain ⟨lv, hlv⟩ : ∃ v, v = lookV s.port s.seq (ms1.map Msg.ent) := ⟨_, rfl⟩
  have hlk : ∀ n, (Instr.lookup 62 (.map mp) (.agg #[.int .u64 0, .int .u64 0, .pointer none, .int .u16 s.port, .int .u16 s.seq]) false).run Tryf.prog (W2.drewN n) = .ok lv (W2.drewN n) := fun n => by rw [hlv]; exact lookup_run (W2.drewN n) mp _ s.port s.seq (hmap.draw n)
  have y0 : ∀ n, (W2.drewN n).cell? ⟨w1.heap.size, 0, none⟩ = some (.int .u64 0) := fun n => cell_of bY 0
  have y1 : ∀ n, (W2.drewN n).cell? ⟨w1.heap.size, 1, none⟩ = some (.int .u64 0) := fun n => cell_of bY 1
  have y2 : ∀ n, (W2.drewN n).cell? ⟨w1.heap.size, 2, none⟩ = some (.pointer none) := fun n => cell_of bY 2
  have y3 : ∀ n, (W2.drewN n).cell? ⟨w1.heap.size, 3, none⟩ = some (.int .u16 s.port) := fun n => cell_of bY 3
  have y4 : ∀ n, (W2.drewN n).cell? ⟨w1.heap.size, 4, none⟩ = some (.int .u16 s.seq) := fun n => cell_of bY 4
  have y5 : ∀ n, (W2.drewN n).cell? ⟨R, 3, none⟩ = some (.map mp) := fun n => cell_of hroot 3
  have FR2 : Hid (FrR K0 w W2) := (unhide FR1).trans (FrR.of_below hb2 (Nat.le_trans (unhide HK0).1 (unhide FR1).below.size))
  have R2 := hide r2
  have BY := hide bY
  have BD2 := hide bD2
  have BT2 := hide bT2
  have HLV := hide hlv
  clear r2 bY bD2 bT2 hlv hmap hroot hb2 hW2 x0 x1 x2 x3 x4 lB lD lT BK BD BT R1 FR1
  go_quiet (fail)
  go_upto_region 4 with fail
  obtain ⟨W3, hW3⟩ : ∃ W, W = W2.drewN nq := ⟨_, rfl⟩
  rw [← hW3]
  have FR3 : Hid (FrR K0 w W3) := by rw [hW3]; exact (unhide FR2).gr ((Gr.refl W2).drewN nq) (unhide HK0).1
  have R3 : Hid (RepR W3 K0 R mx lt lim ms1) := by rw [hW3]; exact (unhide R2).below (Gr.below ((Gr.refl W2).drewN nq))
  have BY3 : Hid (W3.heap[w1.heap.size]? = some (.cells (boxK s.port s.seq) 83 (0, 0))) := by rw [hW3]; exact BY
  have BD3 : Hid (W3.heap[w.heap.size + 1]? = some (.cells (boxD s.flags s.seq s.part s.parts oa s.data.length dc) 89 (0, 0))) := by rw [hW3]; exact BD2
  have BT3 : Hid (W3.heap[w.heap.size + 2]? = some (.cells (boxT tn ts) 92 (0, 0))) := by rw [hW3]; exact BT2
  clear y0 y1 y2 y3 y4 y5 hlk hW3 BY BD2 BT2 R2 FR2
  go_cut [47] from 26 to 47 (fun c wx => Hid (c = .bool (badA (ms1.map Msg.abs) s) ∧ ∃ n, wx = W3.drewN n))
  case first => -- DONE
    cases hfd : findA s.port s.seq (ms1.map Msg.abs) 0 with
    | none =>
      have elv : lv = .pointer none := by rw [unhide HLV, lookV, find_none _ _ _ _ hfd]
      have ebad : badA (ms1.map Msg.abs) s = false := by unfold badA; rw [hfd]
      subst elv
      have EB := hide ebad
      clear hfd ebad
      go_quiet (fail)
      go_wp2_with fail
      go_meet
      case rel => exact ⟨by rw [unhide EB], nq, rfl⟩
    | some j =>
      obtain ⟨hj, hlook⟩ := find_look _ _ _ _ _ hfd
      simp only [Nat.sub_zero] at hj hlook
      have elv : lv = .pointer (some ⟨(ms1[j]).pA, 0, none⟩) := by rw [unhide HLV, lookV, hlook]
      have hcs := ((unhide R3).part _ (List.getElem_mem hj)).cells
      have hmk : okM (ms1[j]).abs := (unhide OK1).each _ (List.mem_map.2 ⟨_, List.getElem_mem hj, rfl⟩)
      have fx := flag_xor (ms1[j]).flags s.flags hmk.flags.1 hmk.flags.2 (unhide HS).flags.1 (unhide HS).flags.2
      have ebad : badA (ms1.map Msg.abs) s = !(decide ((ms1[j]).parts = s.parts) && (defl (ms1[j]).flags == defl s.flags)) := by
        unfold badA
        rw [hfd]
        simp only [List.getElem?_map, List.getElem?_eq_getElem hj, Option.map_some]
        rfl
      subst elv
      have z1 : ∀ n, (W3.drewN n).cell? ⟨(ms1[j]).pA, 5, none⟩ = some (.int .u8 (ms1[j]).flags) := fun _ => hcs.1
      have z2 : ∀ n, (W3.drewN n).cell? ⟨(ms1[j]).pA, 6, none⟩ = some (.int .i64 (ms1[j]).parts) := fun _ => hcs.2.1
      have z3 : ∀ n, (W3.drewN n).cell? ⟨w.heap.size + 1, 0, none⟩ = some (.int .u8 s.flags) := fun _ => cell_of (unhide BD3) 0
      have z4 : ∀ n, (W3.drewN n).cell? ⟨w.heap.size + 1, 3, none⟩ = some (.int .i64 s.parts) := fun _ => cell_of (unhide BD3) 3
      have EB := hide ebad
      have FX := hide fx
      clear hfd ebad hlook hcs hmk fx
      generalize (ms1[j]).pA = pA at *
      generalize (ms1[j]).parts = mp1 at *
      generalize (ms1[j]).flags = mf1 at *
      by_cases c1 : mp1 = s.parts
      · subst c1
        go_quiet (fail)
        go_wp2_with fail
        go_meet
        case rel => exact ⟨by rw [unhide EB, unhide FX]; simp [bne], nq, rfl⟩
      · go_quiet (fail)
        go_wp2_with fail
        go_meet
        case rel => exact ⟨by rw [unhide EB]; simp [c1], nq, rfl⟩
  case rest =>
    rename World => wx
    obtain ⟨rfl, n4, hwx⟩ := unhide hcut
    have FR4 : Hid (FrR K0 w wx) := by rw [hwx]; exact (unhide FR3).gr ((Gr.refl W3).drewN n4) (unhide HK0).1
    have R4 : Hid (RepR wx K0 R mx lt lim ms1) := by rw [hwx]; exact (unhide R3).below (Gr.below ((Gr.refl W3).drewN n4))
    have BY4 : Hid (wx.heap[w1.heap.size]? = some (.cells (boxK s.port s.seq) 83 (0, 0))) := by rw [hwx]; exact BY3
    have BD4 : Hid (wx.heap[w.heap.size + 1]? = some (.cells (boxD s.flags s.seq s.part s.parts oa s.data.length dc) 89 (0, 0))) := by rw [hwx]; exact BD3
    have BT4 : Hid (wx.heap[w.heap.size + 2]? = some (.cells (boxT tn ts) 92 (0, 0))) := by rw [hwx]; exact BT3
    clear hcut hwx BY3 BD3 BT3 R3 FR3
    go_upto_if 47 with fail
    go_cut [12] (fun v12 w' => Hid (∃ ms2 oi, v12 = ptrOf ms2 oi ∧ pickA (ms1.map Msg.abs) s = (ms2.map Msg.abs, oi) ∧ RepR w' K0 R mx lt lim ms2 ∧ GD ms2 ∧ FrR K0 w w' ∧ w'.heap[w1.heap.size]? = some (.cells (boxK s.port s.seq) 83 (0, 0)) ∧ w'.heap[w.heap.size + 1]? = some (.cells (boxD s.flags s.seq s.part s.parts oa s.data.length dc) 89 (0, 0)) ∧ w'.heap[w.heap.size + 2]? = some (.cells (boxT tn ts) 92 (0, 0))))
    case first => -- DONE
      cases hfd : findA s.port s.seq (ms1.map Msg.abs) 0 with
      | none =>
        have elv : lv = .pointer none := by rw [unhide HLV, lookV, find_none _ _ _ _ hfd]
        have ebad : badA (ms1.map Msg.abs) s = false := by unfold badA; rw [hfd]
        have epick : pickA (ms1.map Msg.abs) s = (ms1.map Msg.abs, none) := by unfold pickA; rw [hfd]
        rw [ebad]
        have EP := hide epick
        have EL := hide elv
        clear hfd ebad epick elv
        go_wp2_with fail
        go_meet
        case rel => exact ⟨ms1, none, unhide EL, unhide EP, unhide R4, unhide GD1, unhide FR4, unhide BY4, unhide BD4, unhide BT4⟩
      | some j =>
        obtain ⟨hj, hlook⟩ := find_look _ _ _ _ _ hfd
        simp only [Nat.sub_zero] at hj hlook
        have elv : lv = .pointer (some ⟨(ms1[j]).pA, 0, none⟩) := by rw [unhide HLV, lookV, hlook]
        have ebad : badA (ms1.map Msg.abs) s = !(decide ((ms1[j]).parts = s.parts) && (defl (ms1[j]).flags == defl s.flags)) := by
          unfold badA
          rw [hfd]
          simp only [List.getElem?_map, List.getElem?_eq_getElem hj, Option.map_some]
          rfl
        have epick : pickA (ms1.map Msg.abs) s = if (ms1[j]).parts = s.parts ∧ defl (ms1[j]).flags = defl s.flags then (ms1.map Msg.abs, some j) else ((ms1.map Msg.abs).eraseIdx j, none) := by
          unfold pickA
          rw [hfd]
          simp only [List.getElem?_map, List.getElem?_eq_getElem hj, Option.map_some]
          rfl
        subst elv
        by_cases cc : (ms1[j]).parts = s.parts ∧ defl (ms1[j]).flags = defl s.flags
        · rw [if_pos cc] at epick
          have eb : badA (ms1.map Msg.abs) s = false := by rw [ebad]; simp [cc.1, cc.2]
          rw [eb]
          have EP := hide epick
          clear hfd ebad epick eb hlook cc
          go_wp2_with fail
          go_meet
          case rel => exact ⟨ms1, some j, by simp [ptrOf, hj], unhide EP, unhide R4, unhide GD1, unhide FR4, unhide BY4, unhide BD4, unhide BT4⟩
        · rw [if_neg cc, erase_abs] at epick
          have eb : badA (ms1.map Msg.abs) s = true := by
            rw [ebad]
            rw [Bool.not_eq_true', Bool.and_eq_false_iff]
            by_cases c1 : (ms1[j]).parts = s.parts
            · right; simp; exact fun e => cc ⟨c1, e⟩
            · left; simp [c1]
          rw [eb]
          have ks := okS_of (unhide OK1) (by have := (unhide HK0).2.2; omega)
          have KD25 := hide (dropRep (unhide R4) ks.1 ks.2.1 ks.2.2.1 j hj)
          have EP := hide epick
          clear hfd ebad epick eb hlook cc ks
          go_wp2_with (go_at_call 25; refine Calls.mono (unhide KD25) ?_; rintro e w5 ⟨rfl, r5, k5, l5⟩; have R5 := hide r5; have K5 := hide k5; have L5 := hide l5; clear r5 k5 l5)
          go_meet
          case rel =>
            exact ⟨ms1.eraseIdx j, none, rfl, unhide EP, unhide R5, List.Pairwise.sublist (List.eraseIdx_sublist _ _) (unhide GD1), (unhide FR4).trans (FrR.of_kp (unhide K5) (unhide L5)), (unhide K5 _ _ _ (unhide BY4) (by decide) (by decide)).trans (unhide BY4), (unhide K5 _ _ _ (unhide BD4) (by decide) (by decide)).trans (unhide BD4), (unhide K5 _ _ _ (unhide BT4) (by decide) (by decide)).trans (unhide BT4)⟩
    case rest =>
      rename World => w5
      obtain ⟨ms2, oi, rfl, epick, r5, gd5, fr5, by5, bd5, bt5⟩ := unhide hcut
      have ok2 := pickA_ok (s := s) (unhide OK1)
      rw [epick] at ok2
      have EPK := hide epick
      have OK2 := hide ok2
      have R5 := hide r5
      have GD5 := hide gd5
      have FR5 := hide fr5
      have BY5 := hide by5
      have BD5 := hide bd5
      have BT5 := hide bt5
      have z4 : w5.cell? ⟨w.heap.size + 1, 3, none⟩ = some (.int .i64 s.parts) := cell_of bd5 3
      clear hcut ok2 epick r5 gd5 fr5 by5 bd5 bt5 FR4 R4 BY4 BD4 BT4 HLV OK1 GD1
      go_upto_region 7 with fail
      go_cut [12, 57] from 51 to 57 (fun v c wx => v = ptrOf ms2 oi ∧ c = .bool (oi.isNone && decide (s.parts = 1)) ∧ wx = w5)
      case first => -- DONE
        cases oi with
        | none =>
          rw [show ptrOf ms2 none = .pointer none from rfl]
          go_wp2_with fail
          go_meet
          case rel => exact ⟨rfl, rfl, rfl⟩
        | some i =>
          obtain ⟨a, ha, -⟩ := (unhide OK2).2.1 i rfl
          have hi : i < ms2.length := by have := (List.getElem?_eq_some_iff.1 ha).1; simpa using this
          have ep : ptrOf ms2 (some i) = .pointer (some ⟨(ms2[i]).pA, 0, none⟩) := by simp [ptrOf, hi]
          rw [ep]
          have EPP := hide ep
          clear ha ep
          go_wp2_with fail
          go_meet
          case rel => exact ⟨(unhide EPP).symm, rfl, rfl⟩
      case rest =>
        rename World => wx
        obtain ⟨rfl, rfl, rfl⟩ := hcut
        by_cases c1 : (oi.isNone && decide (s.parts = 1)) = true
        · -- DONE
          rw [c1]
          simp only [Bool.and_eq_true, decide_eq_true_eq] at c1
          obtain ⟨c1, c2⟩ := c1
          have z5 : wx.cell? ⟨w.heap.size + 1, 4, none⟩ = some (.slice oa s.data.length dc) := cell_of (unhide BD5) 4
          obtain rfl : oi = none := by simpa using c1
          go_wp2_with fail
          refine bodyPost_ret (v := .tuple #[.slice oa s.data.length dc, .bool true, .nilIface]) (by simp [results, Tryf.results29, go_sem]) rfl ?_
          rw [unhide STE, unhide EPK, restA, if_pos c2]
          exact ⟨_, _, ms2, rfl, Or.inl ((unhide HV).below (unhide FR5).below), Or.inr ⟨rfl, rfl⟩, unhide R5, unhide GD5, rfl, unhide FR5⟩
        · rw [Bool.eq_false_iff.2 c1]
          have C1 := hide c1
          clear c1
          go_upto_region 9 with fail
          go_cut [12, 61] from 60 to 61 (fun v c w' => v = ptrOf ms2 oi ∧ c = .bool oi.isNone ∧ w' = wx)
          case first => -- DONE
            cases oi with
            | none =>
              rw [show ptrOf ms2 none = .pointer none from rfl]
              go_wp2_with fail
              go_meet
              case rel => exact ⟨rfl, rfl, rfl⟩
            | some i =>
              obtain ⟨a, ha, -⟩ := (unhide OK2).2.1 i rfl
              have hi : i < ms2.length := by have := (List.getElem?_eq_some_iff.1 ha).1; simpa using this
              have ep : ptrOf ms2 (some i) = .pointer (some ⟨(ms2[i]).pA, 0, none⟩) := by simp [ptrOf, hi]
              rw [ep]
              have EPP := hide ep
              clear ha ep
              go_wp2_with fail
              go_meet
              case rel => exact ⟨(unhide EPP).symm, rfl, rfl⟩
          case rest =>
            rename World => wy
            obtain ⟨rfl, rfl, rfl⟩ := hcut
            go_upto_if 61 with fail
            go_cut [12] (fun v w' => Hid (∃ ms3 i, ∃ hi : i < ms3.length, v = .pointer (some ⟨(ms3[i]).pA, 0, none⟩) ∧ restA mx lim (ms2.map Msg.abs, oi) s = putA mx lim (ms3.map Msg.abs) i s ∧ RepR w' K0 R mx lt lim ms3 ∧ GD ms3 ∧ okA (ms3.map Msg.abs) (B + 256) ∧ (ms3[i]).parts = s.parts ∧ FrR K0 w w' ∧ w'.heap[w.heap.size + 1]? = some (.cells (boxD s.flags s.seq s.part s.parts oa s.data.length dc) 89 (0, 0))))
            case first => -- DONE
              cases oi with
              | none =>
                have hp1 : ¬ s.parts = 1 := fun e => unhide C1 (by simp [e])
                have ks := okS_of (unhide OK2).1 (by have := (unhide HK0).2.2; omega)
                have K34 := hide (start_any wy K0 R mx lt lim ms2 s.port s.seq s.flags s.part s.parts tn ts oa s.data.length dc (Nat.le_trans (unhide HK0).1 (unhide FR5).below.size) ks.2.2.1 ks.2.1 (find_none _ _ _ _ ((unhide OK2).2.2 rfl)) (unhide R5))
                have y0 : wy.cell? ⟨w1.heap.size, 0, none⟩ = some (.int .u64 0) := cell_of (unhide BY5) 0
                have y1 : wy.cell? ⟨w1.heap.size, 1, none⟩ = some (.int .u64 0) := cell_of (unhide BY5) 1
                have y2 : wy.cell? ⟨w1.heap.size, 2, none⟩ = some (.pointer none) := cell_of (unhide BY5) 2
                have y3 : wy.cell? ⟨w1.heap.size, 3, none⟩ = some (.int .u16 s.port) := cell_of (unhide BY5) 3
                have y4 : wy.cell? ⟨w1.heap.size, 4, none⟩ = some (.int .u16 s.seq) := cell_of (unhide BY5) 4
                have d0 : wy.cell? ⟨w.heap.size + 1, 0, none⟩ = some (.int .u8 s.flags) := cell_of (unhide BD5) 0
                have d1 : wy.cell? ⟨w.heap.size + 1, 1, none⟩ = some (.int .u16 s.seq) := cell_of (unhide BD5) 1
                have d2 : wy.cell? ⟨w.heap.size + 1, 2, none⟩ = some (.int .i64 s.part) := cell_of (unhide BD5) 2
                have d3 : wy.cell? ⟨w.heap.size + 1, 3, none⟩ = some (.int .i64 s.parts) := cell_of (unhide BD5) 3
                have d4 : wy.cell? ⟨w.heap.size + 1, 4, none⟩ = some (.slice oa s.data.length dc) := cell_of (unhide BD5) 4
                have q0 : wy.cell? ⟨w.heap.size + 2, 0, none⟩ = some (.int .u64 tn) := cell_of (unhide BT5) 0
                have q1 : wy.cell? ⟨w.heap.size + 2, 1, none⟩ = some (.int .i64 ts) := cell_of (unhide BT5) 1
                have q2 : wy.cell? ⟨w.heap.size + 2, 2, none⟩ = some (.pointer none) := cell_of (unhide BT5) 2
                have HNF := hide ((unhide OK2).2.2 rfl)
                unfold boxK boxD boxT at K34
                clear ks
                go_wp2_with (go_at_call 34; refine Calls.mono (unhide K34) ?_; rintro e w6 ⟨pA, rfl, hst⟩; have HST := hide hst; clear hst)
                go_meet
                case rel =>
                  obtain ⟨-, ⟨eA, born, hrep⟩, kp, bl⟩ := unhide HST
                  refine ⟨_, ms2.length, by simp, ?_, ?_, hrep s.now 0 (unhide HTN) (unhide HTS), ?_, ?_, ?_, (unhide FR5).trans (FrR.of_kp kp bl), (kp _ _ _ (unhide BD5) (by decide) (by decide)).trans (unhide BD5)⟩
                  · simp
                  · rw [restA, if_neg hp1]
                    simp [newA, Msg.abs]
                  · exact gd_new (unhide GD5) rfl
                  · have q := newA_ok (unhide OK2).1 (unhide HS) (unhide HNF)
                    simpa [newA, Msg.abs] using q
                  · simp
              | some i =>
                obtain ⟨a, ha, hap, -⟩ := (unhide OK2).2.1 i rfl
                have hi : i < ms2.length := by have := (List.getElem?_eq_some_iff.1 ha).1; simpa using this
                have ep : ptrOf ms2 (some i) = .pointer (some ⟨(ms2[i]).pA, 0, none⟩) := by simp [ptrOf, hi]
                have hpp : (ms2[i]).parts = s.parts := by
                  simp only [List.getElem?_map, List.getElem?_eq_getElem hi, Option.map_some, Option.some.injEq] at ha
                  rw [← hap, ← ha]; rfl
                rw [ep]
                clear ha ep hap
                go_wp2_with fail
                go_meet
                case rel => exact ⟨ms2, i, hi, rfl, rfl, unhide R5, unhide GD5, (unhide OK2).1.mono (by omega), hpp, unhide FR5, unhide BD5⟩
            case rest =>
              rename World => w6
              obtain ⟨ms3, i, hi, rfl, erest, r6, gd6, ok6, hparts, fr6, bd6⟩ := unhide hcut
              have STE2 : Hid (stepA mx lt lim (ms.map Msg.abs) s = putA mx lim (ms3.map Msg.abs) i s) := by rw [unhide STE, unhide EPK]; exact erest
              obtain ⟨n, hn⟩ : ∃ n : Nat, s.part = (n : Int) := ⟨s.part.toNat, by have := (unhide HS).part; omega⟩
              have hn1 : n < 256 := by have h1 := (unhide HS).part; have h2 := (unhide HS).parts; omega
              have hmem : ms3[i] ∈ ms3 := List.getElem_mem hi
              have hget : (ms3.map Msg.abs)[i]? = some (ms3[i]).abs := by simp [hi]
              have K35 := hide (has_any w6 K0 (ms3[i]) n (r6.part _ hmem) hn1)
              rw [← hn] at K35
              have d2 : w6.cell? ⟨w.heap.size + 1, 2, none⟩ = some (.int .i64 s.part) := cell_of bd6 2
              have R6 := hide r6
              have GD6 := hide gd6
              have OK6 := hide ok6
              have HPA := hide hparts
              have FR6 := hide fr6
              have BD6 := hide bd6
              have HGET := hide hget
              have HN := hide hn
              clear hcut erest r6 gd6 ok6 hparts fr6 bd6 STE EPK OK2 R5 GD5 FR5 BY5 BD5 BT5 hmem hget hn z4
              cases hcm : come s.part (ms3[i]).got with
              | true => -- DONE
                have eput : putA mx lim (ms3.map Msg.abs) i s = (([], false, false), ms3.map Msg.abs) := by
                  unfold putA
                  rw [unhide HGET]
                  simp only [Msg.abs, hcm, if_true]
                rw [hcm] at K35
                have EPUT := hide eput
                clear hcm eput
                go_wp2_with (go_at_call 35; refine Calls.mono (unhide K35) ?_; rintro e w7 ⟨rfl, g7⟩; have G7 := hide g7; clear g7)
                refine bodyPost_ret (v := .tuple #[.slice none 0 0, .bool false, .nilIface]) (by simp [results, Tryf.results29, go_sem]) rfl ?_
                rw [unhide STE2, unhide EPUT]
                have g7 := unhide G7
                exact ⟨_, _, ms3, rfl, Or.inr (Or.inl ⟨none, 0, rfl, rfl⟩), Or.inr ⟨rfl, rfl⟩, (unhide R6).below g7.below, unhide GD6, rfl, (unhide FR6).gr g7 (unhide HK0).1⟩
              | false =>
                rw [hcm] at K35
                have HCM := hide hcm
                clear hcm
                go_upto_region 13 with (go_at_call 35; refine Calls.mono (unhide K35) ?_; rintro e w7 ⟨rfl, g7⟩; have G7 := hide g7; clear g7)
                have r7 := (unhide R6).below (unhide G7).below
                have bd7 := ((unhide G7).below.block _ (lt_of_heap (unhide BD6))).trans (unhide BD6)
                have hp7 := r7.part _ (List.getElem_mem hi)
                obtain ⟨mp7, rn7, rp7, hroot7, -⟩ := r7.root
                have FR7 : Hid (FrR K0 w w7) := (unhide FR6).gr (unhide G7) (unhide HK0).1
                have hmo6 := (unhide OK6).each _ (List.mem_map.2 ⟨_, List.getElem_mem hi, rfl⟩)
                have hcost : lenS (ms3[i]).got + 64 * (ms3[i]).got.length + 256 ≤ B + 256 := by
                  have h1 := (lenS_le (ms3[i]).got).2
                  have h2 := sumA_mem _ _ (List.mem_map.2 ⟨_, List.getElem_mem hi, rfl⟩ : (ms3[i]).abs ∈ ms3.map Msg.abs)
                  have h3 := (unhide OK6).sum
                  simp only [Msg.abs] at h2
                  omega
                have hl0 := (lenS_le (ms3[i]).got).1
                have hdl := (unhide HS).data
                have hBB := (unhide HK0).2.2
                have e1 : IntKind.i64.wrap (lenS (ms3[i]).got + (s.data.length : Int)) = lenS (ms3[i]).got + (s.data.length : Int) := by rw [IntKind.wrap_i64]; omega
                have p0 : ∀ n, (w7.drewN n).cell? ⟨(ms3[i]).pA, 12, none⟩ = some (.int .i64 (lenS (ms3[i]).got)) := fun _ => hp7.cells.2.2.2.1
                have p1 : ∀ n, (w7.drewN n).cell? ⟨w.heap.size + 1, 4, none⟩ = some (.slice oa s.data.length dc) := fun _ => cell_of bd7 4
                have p2 : ∀ n, (w7.drewN n).cell? ⟨R, 0, none⟩ = some (.int .i64 mx) := fun _ => cell_of hroot7 0
                have R7 := hide r7
                have BD7 := hide bd7
                clear r7 bd7 hp7 hroot7 R6 BD6 G7 FR6 K35 d2 hmo6
                by_cases cl : mx < lenS (ms3[i]).got + (s.data.length : Int)
                · have eput : putA mx lim (ms3.map Msg.abs) i s = (([], false, true), (ms3.eraseIdx i).map Msg.abs) := by
                    unfold putA
                    rw [unhide HGET]
                    show (if come s.part (ms3[i]).got = true then _ else if mx < lenS (ms3[i]).got + s.data.length then _ else _) = _
                    rw [unhide HCM, if_neg (by simp), if_pos cl, erase_abs]
                  have EPUT := hide eput
                  have ks := okS_of (unhide OK6) (by omega)
                  have KD25 : Hid (∀ n, Calls Tryf.prog 25 #[.pointer (some ⟨R, 0, none⟩), .pointer (some ⟨(ms3[i]).pA, 0, none⟩)] (w7.drewN n) fun e w' => e = .returned (.tuple #[]) ∧ RepR w' K0 R mx lt lim (ms3.eraseIdx i) ∧ Kp (w7.drewN n) w' ∧ Below K0 (w7.drewN n) w') := fun n => dropRep ((unhide R7).below (Gr.below ((Gr.refl w7).drewN n))) ks.1 ks.2.1 ks.2.2.1 i hi
                  clear eput ks
                  go_quiet (fail)
                  go_upto_region 15 with (go_at_call 25; refine Calls.mono (unhide KD25 _) ?_; rintro e w8 ⟨rfl, r8, k8, l8⟩; have R8 := hide r8; have K8 := hide k8; have L8 := hide l8; clear r8 k8 l8)
                  obtain ⟨mp8, rn8, rp8, hroot8, -⟩ := (unhide R8).root
                  have a0 : w8.cell? ⟨R, 0, none⟩ = some (.int .i64 mx) := cell_of hroot8 0
                  have FR8 : Hid (FrR K0 w w8) := ((unhide FR7).gr ((Gr.refl w7).drewN nq) (unhide HK0).1).trans (FrR.of_kp (unhide K8) (unhide L8))
                  have htape : F.answers (w8.alloc (.cells #[.iface 3 (.int .i64 mx)] 20)).tape := by
                    have : w8.tape = w.tape := (unhide FR8).below.tape
                    show F.answers w8.tape
                    rw [this]; exact unhide HF
                  have cE : (w8.alloc (.cells #[.iface 3 (.int .i64 mx)] 20)).cell? ⟨w8.heap.size, 0, none⟩ = some (.iface 3 (.int .i64 mx)) := cell_of (heap_alloc_new w8 _) 0
                  have K36 := hide (errorf_any F mx w8.heap.size (w8.alloc (.cells #[.iface 3 (.int .i64 mx)] 20)) htape cE)
                  clear hroot8 htape cE
                  go_wp2_with (go_at_call 36; refine Calls.mono (unhide K36) ?_; rintro e w9 ⟨te, ve, rfl, g9⟩; have G9 := hide g9; clear g9)
                  refine bodyPost_ret (v := .tuple #[.slice none 0 0, .bool false, .iface te ve]) (by simp [results, Tryf.results29, go_sem]) rfl ?_
                  rw [unhide STE2, unhide EPUT]
                  have g9 := ((Gr.refl w8).alloc _).trans (unhide G9)
                  exact ⟨_, _, ms3.eraseIdx i, rfl, Or.inr (Or.inl ⟨none, 0, rfl, rfl⟩), Or.inl ⟨rfl, te, ve, rfl⟩, (unhide R8).below g9.below, List.Pairwise.sublist (List.eraseIdx_sublist _ _) (unhide GD6), rfl, (unhide FR8).gr g9 (unhide HK0).1⟩
                · go_quiet (fail)
                  go_upto_region 16 with fail
                  obtain ⟨W8, hW8⟩ : ∃ W, W = w7.drewN nq := ⟨_, rfl⟩
                  rw [← hW8]
                  have R8 : Hid (RepR W8 K0 R mx lt lim ms3) := by rw [hW8]; exact (unhide R7).below (Gr.below ((Gr.refl w7).drewN nq))
                  have BD8 : Hid (W8.heap[w.heap.size + 1]? = some (.cells (boxD s.flags s.seq s.part s.parts oa s.data.length dc) 89 (0, 0))) := by rw [hW8]; exact BD7
                  have FR8 : Hid (FrR K0 w W8) := by rw [hW8]; exact (unhide FR7).gr ((Gr.refl w7).drewN nq) (unhide HK0).1
                  obtain ⟨m, hm⟩ : ∃ m, m = ms3[i] := ⟨_, rfl⟩
                  have hp8 := (unhide R8).part _ (List.getElem_mem hi)
                  rw [← hm] at hp8 ⊢
                  obtain ⟨xs, hown, hxs⟩ := hp8.2.2
                  have c7 : W8.cell? ⟨m.pA, 7, none⟩ = some m.gv := cell_of hp8.1 7
                  have f7 : W8.frozen? ⟨m.pA, 7, none⟩ = false := froz_of hp8.1 7
                  have z2 : W8.cell? ⟨w.heap.size + 1, 2, none⟩ = some (.int .i64 s.part) := cell_of (unhide BD8) 2
                  have z4 : W8.cell? ⟨w.heap.size + 1, 4, none⟩ = some (.slice oa s.data.length dc) := cell_of (unhide BD8) 4
                  have hbs : BS W8.drew (.slice oa s.data.length dc) s.data := ((unhide HV).below (unhide FR8).below).bs.below (Gr.below (Gr.refl W8).drew)
                  have K37 := hide (bClone_any _ _ _ hbs hdl)
                  have ltp : m.pA < W8.heap.size := lt_of_heap hp8.1
                  have ltD : w.heap.size + 1 < W8.heap.size := lt_of_heap (unhide BD8)
                  have hglen : m.got.length ≤ 255 := by
                    have h1 := (unhide OK6).each _ (List.mem_map.2 ⟨_, List.getElem_mem hi, rfl⟩)
                    have h2 := h1.less
                    have h3 := h1.parts.2
                    rw [hm]; simp only [Msg.abs] at h2 h3; omega
                  have hpg : some m.pA ≠ m.gv.ownBlock := fun e => by
                    obtain ⟨-, cs, e1⟩ := hp8.2.2.own _ e.symm
                    exact tag_ne hp8.1 e1 (by decide) rfl
                  have HOWN := hide hown
                  have HXS := hide hxs
                  have HPG := hide hpg
                  have HGL := hide hglen
                  have HM := hide hm
                  have HP8 := hide hp8
                  have hK8 : Hid (K0 ≤ W8.heap.size) := Nat.le_trans (unhide HK0).1 (unhide FR8).below.size
                  obtain ⟨i105, hi105, hz0, hz1, hz2⟩ := info_parts info105
                  clear hown hxs hpg hglen hm hp8 hbs R7 BD7 p0 p1 p2 hW8 FR7
                  go_cut [] from 94 to 108 (fun w' => Hid (∃ wa v', Put16 W8 K0 m s.part s.data wa v' ∧ w' = wa.setCell ⟨m.pA, 7, none⟩ v'))
                  case first => -- DONE
                    clear HTN HTS HF HS STE2 R8 GD6 OK6 HPA BD8 HGET HCM FR8 e1 cl hcost hl0 hdl hBB C1 HM hi HV HK0
                    go_region_law
                      (first
                        | (refine step_call1 (by rfl) (.tmp 102) 37 _ (by rfl) (.slice oa s.data.length dc) (by rfl) enters37 (unhide K37) ?_; rintro v8 w8 ⟨bo, hb8⟩; obtain ⟨o8, n8, d8, rfl⟩ := bo.shape
                           have c7a : w8.cell? ⟨m.pA, 7, none⟩ = some m.gv := (hb8.cell (p := ⟨m.pA, 7, none⟩) ltp).trans c7
                           have z2a : w8.cell? ⟨w.heap.size + 1, 2, none⟩ = some (.int .i64 s.part) := (hb8.cell (p := ⟨w.heap.size + 1, 2, none⟩) ltD).trans z2
                           have OW8 : Hid (w8.ownsRow K0 105 2 m.gv m.got.length xs) := ownsRow_kp (unhide HOWN) (fun k cs e => hb8.block k (lt_of_heap e))
                           have lp8 : m.pA < w8.heap.size := Nat.lt_of_lt_of_le ltp hb8.size
                           have np8 : ¬ m.pA = w8.heap.size := by omega
                           have np9 : ¬ w8.heap.size = m.pA := by omega
                           have HB8 := hide hb8
                           have BO8 := hide bo
                           clear bo hb8)
                        | (refine step_append_lies _ (by rfl) _ _ _ (by rfl) K0 105 i105 _ 2 32 Tryf.underlying94 hi105 hz0 hz1 hz2 rfl (by omega) m.gv m.got.length xs (by rfl) ((unhide OW8).alloc _)
                            ⟨w8.heap.size, 0, none⟩ 1 1 [.int .i64 s.part, .slice o8 n8 d8] (by rfl) (by rfl) (World.news_of_block (cs := #[.int .i64 s.part, .slice o8 n8 d8]) (t := 105) (fr := (0, 0)) (heap_alloc_new w8 _)) (by simp [Value.oneCell'])
                            (by omega) (by have := unhide HGL; unfold maxLen; omega) (by have := unhide HGL; omega) (Nat.le_trans (unhide hK8) (Nat.le_trans (unhide HB8).size (by simp))) (w8.heap.size + 1) (by simp) ?_; intro gg cap w10 hown1 hgrow hat hlt
                           have hbk : w10.heap[m.pA]? = W8.heap[m.pA]? := (hgrow.block m.pA (Nat.lt_of_lt_of_le ltp (Nat.le_trans (unhide HB8).size (by simp))) (unhide HPG)).trans ((Below.heap_alloc w8 _ m.pA (Nat.lt_of_lt_of_le ltp (unhide HB8).size)).trans ((unhide HB8).block m.pA ltp))
                           have c7b : w10.cell? ⟨m.pA, 7, none⟩ = some m.gv := (World.cell?_of_block (a := ⟨m.pA, 7, none⟩) hbk).trans c7
                           have f7b : w10.frozen? ⟨m.pA, 7, none⟩ = false := (World.frozen?_of_block (a := ⟨m.pA, 7, none⟩) hbk).trans f7
                           have HOW := hide hown1
                           have HGW := hide hgrow
                           have HAT := hide hat
                           clear hown1 hgrow hat hlt hbk))
                    all_goals go_wp2_with fail
                    all_goals go_meet
                    all_goals exact ⟨w10, _, put16 (unhide HP8).2.2 (unhide HXS) (unhide HOWN).1 ((Gr.below (Gr.refl W8).drew).trans (unhide HB8)) (unhide BO8) (unhide HOW) (unhide HGW) (unhide HAT) (Nat.le_trans (unhide HB8).size (Nat.le_succ _)), rfl⟩
                  case rest =>
                    rename World => w9
                    obtain ⟨wa, v', hput, hw9⟩ := unhide hcut
                    obtain ⟨M, hM⟩ : ∃ M : Msg, M = { m with got := m.got ++ [(s.part, s.data)], gv := v' } := ⟨_, rfl⟩
                    have hroot8 := (unhide R8).root
                    obtain ⟨mp8, rn8, rp8, hro8, -⟩ := hroot8
                    have nR : some R ≠ m.gv.ownBlock := fun e => by
                      obtain ⟨-, cs, e1⟩ := (unhide HP8).2.2.own _ e.symm
                      exact tag_ne hro8 e1 (by decide) rfl
                    have nD : some (w.heap.size + 1) ≠ m.gv.ownBlock := fun e => by
                      obtain ⟨-, cs, e1⟩ := (unhide HP8).2.2.own _ e.symm
                      exact tag_ne (unhide BD8) e1 (by decide) rfl
                    have dpR : m.pA ≠ R := tag_ne (unhide HP8).1 hro8 (by decide)
                    have dpD : m.pA ≠ w.heap.size + 1 := tag_ne (unhide HP8).1 (unhide BD8) (by decide)
                    have dRD : R ≠ w.heap.size + 1 := tag_ne hro8 (unhide BD8) (by decide)
                    have ba := (hput.a2 _ ltp (unhide HPG)).trans (unhide HP8).1
                    have bD := (hput.a2 _ ltD nD).trans (unhide BD8)
                    have bR := (hput.a2 _ (lt_of_heap hro8) nR).trans hro8
                    have ch9 : Ch [m.pA, R] wa w9 := by rw [hw9]; exact (Ch.refl _ wa).setCell _ _ (Or.inl (by simp))
                    have SZ9 : Hid (w9.heap.size = wa.heap.size) := by rw [hw9]; exact size_setCell _ _ _
                    have ba9 : w9.heap[m.pA]? = some (.cells (m.pc.setIfInBounds 7 v') 97 (0, 0)) := by rw [hw9]; exact heap_setCell_row ba 7 v'
                    have bD9 := (ch9.block _ (lt_of_heap bD) (by simp; omega)).trans bD
                    have bR9 : w9.heap[R]? = some (.cells (rcells mx lt lim mp8 rn8 rp8 ms3.length (sumC ms3)) 70 (0, 0)) := by
                      rw [hw9, Below.heap_setCell _ _ _ _ (by show R ≠ m.pA; omega)]; exact bR
                    obtain ⟨k, hk⟩ : ∃ k, k = n / 64 := ⟨_, rfl⟩
                    obtain ⟨a, ha⟩ : ∃ a, a = n % 64 := ⟨_, rfl⟩
                    have hk4 : k < 4 := by omega
                    have ha64 : a < 64 := by omega
                    have x4 : (0 : Int) ≤ (n : Int) / 64 := by omega
                    have x5 : (n : Int) / 64 < 4 := by omega
                    have x3 : (0 : Int) ≤ (a : Int) := by omega
                    have wr1 : IntKind.i64.wrap ((n : Int) / 64) = (n : Int) / 64 := by rw [IntKind.wrap_i64]; omega
                    have wr2 : IntKind.i64.wrap ((n : Int) % 64) = (a : Int) := by rw [IntKind.wrap_i64]; omega
                    have hwd : wa.cell? ⟨m.pA, 8 + k, none⟩ = some (.int .u64 (bitN k m.got : Int)) := has_word ba k hk4
                    have g1 : w9.cell? ⟨m.pA, 8 + n / 64, none⟩ = some (.int .u64 (bitN k m.got : Int)) := by
                      rw [← hk, hw9, World.cell?_setCell_other _ _ _ _ (by simp)]; exact hwd
                    have g2 : w9.frozen? ⟨m.pA, 8 + n / 64, none⟩ = false := froz_of ba9 _
                    have g3 : w9.cell? ⟨w.heap.size + 1, 2, none⟩ = some (.int .i64 (n : Int)) := by rw [← unhide HN]; exact cell_of bD9 2
                    have ob := or_bit (bitN k m.got) a ha64 (bitN_lt _ _)
                    have HPUT := hide hput
                    have HHM := hide hM
                    have BA9 := hide ba9
                    have BD9 := hide bD9
                    have BR9 := hide bR9
                    have CH9 := hide ch9
                    have HKN := hide (And.intro hk ha)
                    clear hcut hput hM ba9 bD9 bR9 ch9 hk ha ba bD bR hw9 hwd c7 f7 z2 z4 HPG K37
                    go_upto_region 17 with fail
                    go_region
                    go_upto_region 18 with fail
                    obtain ⟨X, hX⟩ : ∃ X, X = Value.int IntKind.u64 (bits BinOp.or IntKind.u64 (↑(bitN (↑k) m.got)) (IntKind.u64.wrap (2 ^ (n % 64)))) := ⟨_, rfl⟩
                    obtain ⟨W10, hW10⟩ : ∃ W, W = (w9.setCell ⟨m.pA, 8 + n / 64, none⟩ X).drew := ⟨_, rfl⟩
                    rw [← hX, ← hW10]
                    rw [← (unhide HKN).2, ob] at hX
                    have SZ10 : Hid (W10.heap.size = wa.heap.size) := by rw [hW10]; exact (size_setCell _ _ _).trans (unhide SZ9)
                    have ba10 : W10.heap[m.pA]? = some (.cells ((m.pc.setIfInBounds 7 v').setIfInBounds (8 + n / 64) X) 97 (0, 0)) := by rw [hW10]; exact heap_setCell_row (unhide BA9) _ _
                    have ch10 : Ch [m.pA, R] wa W10 := by rw [hW10]; exact ((unhide CH9).setCell _ _ (Or.inl (by simp))).drew
                    have bD10 : W10.heap[w.heap.size + 1]? = some (.cells (boxD s.flags s.seq s.part s.parts oa s.data.length dc) 89 (0, 0)) := by
                      rw [hW10]; exact (Below.heap_setCell _ _ _ _ (by show w.heap.size + 1 ≠ m.pA; omega)).trans (unhide BD9)
                    have bR10 : W10.heap[R]? = some (.cells (rcells mx lt lim mp8 rn8 rp8 ms3.length (sumC ms3)) 70 (0, 0)) := by
                      rw [hW10]; exact (Below.heap_setCell _ _ _ _ (by show R ≠ m.pA; omega)).trans (unhide BR9)
                    have g4 : W10.cell? ⟨m.pA, 12, none⟩ = some (.int .i64 (lenS m.got)) := by
                      rw [hW10]; exact (World.cell?_setCell_other _ _ _ _ (by simp)).trans (cell_of (unhide BA9) 12)
                    have g4f : W10.frozen? ⟨m.pA, 12, none⟩ = false := froz_of ba10 _
                    have g5 : W10.cell? ⟨m.pA, 13, none⟩ = some (.int .i64 (costS m.got)) := by
                      rw [hW10]; exact (World.cell?_setCell_other _ _ _ _ (by simp)).trans (cell_of (unhide BA9) 13)
                    have g6 : W10.cell? ⟨w.heap.size + 1, 4, none⟩ = some (.slice oa s.data.length dc) := cell_of bD10 4
                    have G5 := hide g5
                    have BA10 := hide ba10
                    have BD10 := hide bD10
                    have BR10 := hide bR10
                    have CH10 := hide ch10
                    have HX := hide hX
                    rw [← unhide HM] at e1
                    clear g1 g2 g3 g5 ba10 bD10 bR10 ch10 hW10 hX BA9 BD9 BR9 CH9 ob x3 x4 x5 wr1 wr2
                    go_region
                    go_upto_region 19 with fail
                    obtain ⟨W11, hW11⟩ : ∃ W, W = (W10.setCell ⟨m.pA, 12, none⟩ (Value.int IntKind.i64 (lenS m.got + ↑s.data.length))).drew := ⟨_, rfl⟩
                    rw [← hW11]
                    have SZ11 : Hid (W11.heap.size = wa.heap.size) := by rw [hW11]; exact (size_setCell _ _ _).trans (unhide SZ10)
                    have ba11 : W11.heap[m.pA]? = some (.cells (((m.pc.setIfInBounds 7 v').setIfInBounds (8 + n / 64) X).setIfInBounds 12 (.int .i64 (lenS m.got + s.data.length))) 97 (0, 0)) := by rw [hW11]; exact heap_setCell_row (unhide BA10) _ _
                    have ch11 : Ch [m.pA, R] wa W11 := by rw [hW11]; exact ((unhide CH10).setCell _ _ (Or.inl (by simp))).drew
                    have bD11 : W11.heap[w.heap.size + 1]? = some (.cells (boxD s.flags s.seq s.part s.parts oa s.data.length dc) 89 (0, 0)) := by
                      rw [hW11]; exact (Below.heap_setCell _ _ _ _ (by show w.heap.size + 1 ≠ m.pA; omega)).trans (unhide BD10)
                    have bR11 : W11.heap[R]? = some (.cells (rcells mx lt lim mp8 rn8 rp8 ms3.length (sumC ms3)) 70 (0, 0)) := by
                      rw [hW11]; exact (Below.heap_setCell _ _ _ _ (by show R ≠ m.pA; omega)).trans (unhide BR10)
                    have g7 : W11.cell? ⟨m.pA, 13, none⟩ = some (.int .i64 (costS m.got)) := by
                      rw [hW11]; exact (World.cell?_setCell_other _ _ _ _ (by simp)).trans (unhide G5)
                    have g7f : W11.frozen? ⟨m.pA, 13, none⟩ = false := froz_of ba11 _
                    have g8 : W11.cell? ⟨w.heap.size + 1, 4, none⟩ = some (.slice oa s.data.length dc) := cell_of bD11 4
                    have hsum := (unhide OK6).sum
                    rw [sumA_map] at hsum
                    have hs0 : 0 ≤ sumC ms3 := by rw [← sumA_map]; exact sumA_nonneg _
                    have hcm : costS m.got ≤ sumC ms3 ∧ 0 ≤ costS m.got := by
                      have q := sumA_mem _ _ (List.mem_map.2 ⟨_, List.getElem_mem hi, rfl⟩ : (ms3[i]).abs ∈ ms3.map Msg.abs)
                      rw [sumA_map] at q
                      simp only [Msg.abs] at q
                      rw [unhide HM]
                      exact ⟨q, by have := costS_pos (ms3[i]).got; omega⟩
                    have t1 : IntKind.i64.wrap (64 + (s.data.length : Int)) = 64 + (s.data.length : Int) := by rw [IntKind.wrap_i64]; omega
                    have t2 : IntKind.i64.wrap (costS m.got + (64 + (s.data.length : Int))) = costS m.got + (64 + (s.data.length : Int)) := by rw [IntKind.wrap_i64]; omega
                    have t3 : IntKind.i64.wrap (sumC ms3 + (64 + (s.data.length : Int))) = sumC ms3 + (64 + (s.data.length : Int)) := by rw [IntKind.wrap_i64]; omega
                    have BA11 := hide ba11
                    have BD11 := hide bD11
                    have BR11 := hide bR11
                    have CH11 := hide ch11
                    have HSU := hide (And.intro hsum (And.intro hs0 hcm))
                    have HE := hide (And.intro hcost (And.intro hl0 (And.intro hdl hBB)))
                    have HCL := hide cl
                    clear g4 g4f g6 G5 ba11 bD11 bR11 ch11 hW11 BA10 BD10 BR10 CH10 e1 hsum hs0 hcm hcost hl0 hdl hBB cl
                    go_region
                    go_upto_region 20 with fail
                    obtain ⟨W12, hW12⟩ : ∃ W, W = (W11.setCell ⟨m.pA, 13, none⟩ (Value.int IntKind.i64 (costS m.got + (64 + ↑s.data.length)))).drew := ⟨_, rfl⟩
                    rw [← hW12]
                    have SZ12 : Hid (W12.heap.size = wa.heap.size) := by rw [hW12]; exact (size_setCell _ _ _).trans (unhide SZ11)
                    have ba12 : W12.heap[m.pA]? = some (.cells ((((m.pc.setIfInBounds 7 v').setIfInBounds (8 + n / 64) X).setIfInBounds 12 (.int .i64 (lenS m.got + s.data.length))).setIfInBounds 13 (.int .i64 (costS m.got + (64 + s.data.length)))) 97 (0, 0)) := by rw [hW12]; exact heap_setCell_row (unhide BA11) _ _
                    have ch12 : Ch [m.pA, R] wa W12 := by rw [hW12]; exact ((unhide CH11).setCell _ _ (Or.inl (by simp))).drew
                    have bD12 : W12.heap[w.heap.size + 1]? = some (.cells (boxD s.flags s.seq s.part s.parts oa s.data.length dc) 89 (0, 0)) := by
                      rw [hW12]; exact (Below.heap_setCell _ _ _ _ (by show w.heap.size + 1 ≠ m.pA; omega)).trans (unhide BD11)
                    have bR12 : W12.heap[R]? = some (.cells (rcells mx lt lim mp8 rn8 rp8 ms3.length (sumC ms3)) 70 (0, 0)) := by
                      rw [hW12]; exact (Below.heap_setCell _ _ _ _ (by show R ≠ m.pA; omega)).trans (unhide BR11)
                    have bM12 : W12.heap[m.pA]? = some (.cells M.pc 97 (0, 0)) := by
                      rw [ba12, unhide HX, (unhide HKN).1, (unhide HKN).2, pc_put m v' s.part s.data n (unhide HN) hn1, unhide HHM]
                    have g9 : W12.cell? ⟨w.heap.size + 1, 4, none⟩ = some (.slice oa s.data.length dc) := cell_of bD12 4
                    have g10 : W12.cell? ⟨R, 9, none⟩ = some (.int .i64 (sumC ms3)) := cell_of bR12 9
                    have g10f : W12.frozen? ⟨R, 9, none⟩ = false := froz_of bR12 _
                    have BM12 := hide bM12
                    have BR12 := hide bR12
                    have CH12 := hide ch12
                    clear g7 g7f g8 ba12 bM12 bD12 bR12 ch12 hW12 BA11 BD11 BR11 CH11 t2
                    go_region
                    go_upto_region 21 with fail
                    obtain ⟨W13, hW13⟩ : ∃ W, W = (W12.setCell ⟨R, 9, none⟩ (Value.int IntKind.i64 (sumC ms3 + (64 + ↑s.data.length)))).drew := ⟨_, rfl⟩
                    rw [← hW13]
                    have sz13 : W13.heap.size = wa.heap.size := by rw [hW13]; exact (size_setCell _ _ _).trans (unhide SZ12)
                    have ch13 : Ch [m.pA, R] wa W13 := by rw [hW13]; exact ((unhide CH12).setCell _ _ (Or.inl (by simp))).drew
                    have bM13 : W13.heap[m.pA]? = some (.cells M.pc 97 (0, 0)) := by
                      rw [hW13]; exact (Below.heap_setCell _ _ _ _ (by show m.pA ≠ R; omega)).trans (unhide BM12)
                    have bR13 : W13.heap[R]? = some (.cells ((rcells mx lt lim mp8 rn8 rp8 ms3.length (sumC ms3)).setIfInBounds 9 (.int .i64 (sumC ms3 + (64 + s.data.length)))) 70 (0, 0)) := by
                      rw [hW13]; exact heap_setCell_row (unhide BR12) _ _
                    have hkd3 := okS_of (unhide OK6) (by have := (unhide HE).2.2.2; omega)
                    have hput := unhide HPUT
                    have hMM := unhide HHM
                    have hmm := unhide HM
                    obtain ⟨r13, gd13, fr13⟩ := rep_put (unhide R8) hkd3.1 (unhide GD6) i hi s.part s.data v' hput.a1 (by rw [← hmm]; exact hput.a2) (by rw [← hmm]; exact hput.b) (by rw [← hmm]; exact hput.c)
                      (w9 := W13) ⟨ch13.os, ch13.tape, ch13.output, ch13.size⟩ (by
                        rw [← hmm]
                        intro q h1 h2
                        by_cases hq : q < wa.heap.size
                        · exact ch13.block q hq (by simp; omega)
                        · rw [Array.getElem?_eq_none (by omega), Array.getElem?_eq_none (by omega)])
                      (by rw [← hmm, ← hMM]; exact bM13) (by
                        intro mp rn rp q hq
                        unfold Root at hq ⊢
                        have e : (rcells mx lt lim mp rn rp q (sumC ms3)) = (rcells mx lt lim mp8 rn8 rp8 ms3.length (sumC ms3)) := by
                          rw [hro8] at hq
                          simpa using (Obj.cells.inj (Option.some.inj hq)).1.symm
                        have e2 : rcells mx lt lim mp rn rp q (sumC ms3 + 64 + s.data.length) = (rcells mx lt lim mp rn rp q (sumC ms3)).setIfInBounds 9 (.int .i64 (sumC ms3 + (64 + s.data.length))) := by
                          rw [Int.add_assoc]; rfl
                        rw [bR13, e2, e])
                    rw [← hmm, ← hMM] at r13 gd13
                    have hl4 : i < (ms3.set i M).length := by rw [List.length_set]; exact hi
                    have hg4 : (ms3.set i M)[i] = M := List.getElem_set_self _
                    have hpa : M.pA = m.pA := by rw [hMM]
                    have hgot : M.got = m.got ++ [(s.part, s.data)] := by rw [hMM]
                    have habs : M.abs = addA m.abs s := by rw [hMM]; rfl
                    have hmap4 : (ms3.set i M).map Msg.abs = (ms3.map Msg.abs).set i (addA m.abs s) := by rw [List.map_set, habs]
                    have hsum4 : sumC (ms3.set i M) = sumC ms3 + (64 + s.data.length) := by
                      obtain ⟨mp, rn, rp, hro, -⟩ := r13.root
                      have e1 : W13.cell? ⟨R, 9, none⟩ = some (.int .i64 (sumC (ms3.set i M))) := cell_of hro 9
                      have e2 : W13.cell? ⟨R, 9, none⟩ = some (.int .i64 (sumC ms3 + (64 + s.data.length))) := cell_of bR13 9
                      rw [e1] at e2
                      simpa using e2
                    have ok4 : okS (ms3.set i M) := okS_set (unhide OK6) i hi M (by rw [hMM, hmm]) (by rw [hMM, hmm]) (by rw [hMM, hmm]) (by have h1 := (unhide HSU).1; have h2 := (unhide HE).2.2; rw [hsum4]; omega) (by have := (unhide HE).2.2.2; omega)
                    have FR13 : Hid (FrR K0 w W13) := (unhide FR8).trans fr13
                    have hom := (unhide OK6).each _ (List.mem_map.2 ⟨_, List.getElem_mem hi, rfl⟩)
                    have hadd := addA_ok hom (unhide HS) (unhide HPA) (unhide HCM)
                    rw [← hmm] at hom hadd
                    have hpt13 : Part W13 K0 M := by have q := r13.part _ (List.getElem_mem hl4); rw [hg4] at q; exact q
                    obtain ⟨o7, d7, hv7⟩ := hput.e
                    have p7 : ∀ n, (W13.drewN n).cell? ⟨m.pA, 7, none⟩ = some (.slice o7 (m.got.length + 1) d7) := fun _ => by
                      have q : W13.cell? ⟨m.pA, 7, none⟩ = some M.gv := cell_of bM13 7
                      rw [hMM, hv7] at q
                      exact q
                    have p6 : ∀ n, (W13.drewN n).cell? ⟨m.pA, 6, none⟩ = some (.int .i64 m.parts) := fun _ => by
                      have q : W13.cell? ⟨m.pA, 6, none⟩ = some (.int .i64 M.parts) := cell_of bM13 6
                      rw [hMM] at q
                      exact q
                    have hget : (ms3.map Msg.abs)[i]? = some m.abs := by rw [hmm]; exact unhide HGET
                    have hcm' : come s.part m.abs.got = false := by rw [hmm]; exact unhide HCM
                    have hcl' : ¬ mx < lenS m.abs.got + (s.data.length : Int) := by rw [hmm]; exact unhide HCL
                    have R13 := hide r13
                    have GD13 := hide gd13
                    have OK4 := hide ok4
                    have HL4 := hide hl4
                    have HG4 := hide hg4
                    have HPT := hide hpt13
                    have HADD := hide hadd
                    have HOM := hide hom
                    have HMP := hide hmap4
                    have HGOT := hide hgot
                    have HPA4 := hide hpa
                    clear sz13 ch13 bM13 bR13 hkd3 hput hMM hmm r13 gd13 fr13 hg4 hpa habs hmap4 hsum4 ok4 hom hadd hpt13 hv7 hgot g9 g10 g10f hW13 t1 t3 BM12 BR12 CH12 hro8 nR nD
                    by_cases cw : ((m.got.length : Int) + 1) = m.parts
                    · have eput : putA mx lim (ms3.map Msg.abs) i s = ((joinA M.got, true, false), (ms3.eraseIdx i).map Msg.abs) := by
                        unfold putA
                        rw [hget]
                        show (if come s.part m.abs.got = true then _ else if mx < lenS m.abs.got + s.data.length then _ else if ((m.got.length + 1 : Nat) : Int) = m.parts then _ else _) = _
                        rw [hcm', if_neg (by simp), if_neg hcl', if_pos (by rw [← cw]; simp), erase_abs, unhide HGOT]
                        rfl
                      have EPUT := hide eput
                      have KD25 : Hid (∀ n, Calls Tryf.prog 25 #[.pointer (some ⟨R, 0, none⟩), .pointer (some ⟨m.pA, 0, none⟩)] (W13.drewN n) fun e w' => e = .returned (.tuple #[]) ∧ RepR w' K0 R mx lt lim (ms3.eraseIdx i) ∧ Kp (W13.drewN n) w' ∧ Below K0 (W13.drewN n) w') := fun n => by
                        have q := dropRep ((unhide R13).below (Gr.below ((Gr.refl W13).drewN n))) (unhide OK4).1 (unhide OK4).2.1 (unhide OK4).2.2.1 i (unhide HL4)
                        rw [unhide HG4, unhide HPA4, List.eraseIdx_set_eq] at q
                        exact q
                      have K38 : Hid (∀ n w', Kp (W13.drewN n) w' → Calls Tryf.prog 38 #[.pointer (some ⟨m.pA, 0, none⟩)] w' fun e w'' => ∃ v, e = .returned v ∧ BO w'' v (joinA M.got) ∧ w''.os = w'.os ∧ w''.tape = w'.tape ∧ w''.output = w'.output ∧ w'.heap.size ≤ w''.heap.size ∧ ∀ k, k < w'.heap.size → some k ≠ M.gv.ownBlock → w''.heap[k]? = w'.heap[k]?) := fun n w' hkp => by
                        have hp' : Part w' K0 M := ((unhide HPT).kp (Kp.of_below (Gr.below ((Gr.refl W13).drewN n)))).kp hkp
                        have hadd := unhide HADD
                        unfold addA at hadd
                        simp only [Msg.abs] at hadd
                        rw [← unhide HGOT] at hadd
                        have hpl := (unhide HOM).parts.2
                        have hls := (unhide HOM).less
                        simp only [Msg.abs] at hpl hls
                        have q := join_any w' K0 M hp' (by rw [unhide HGOT]; simp) (by rw [unhide HGOT]; simp; omega) (by
                          rw [unhide HGOT, lenS_app]
                          have h1 := unhide HE
                          rw [← unhide HM] at h1
                          simp only
                          omega) hadd.1 (fun x hx => ⟨(hadd.2 x hx).1, Int.le_trans (hadd.2 x hx).2 hpl⟩)
                        rw [unhide HPA4] at q
                        exact q
                      clear eput hget hcm' hcl'
                      go_quiet (fail)
                      go_upto_region 23 with (go_at_call 25; refine Calls.mono (unhide KD25 _) ?_; rintro e w14 ⟨rfl, r14, k14, l14⟩; have R14 := hide r14; have K14 := hide k14; have L14 := hide l14; clear r14 k14 l14)
                      go_wp2_with (go_at_call 38; refine Calls.mono (unhide K38 _ _ (unhide K14)) ?_; rintro e w15 ⟨v, rfl, bo15, f15⟩; have BO15 := hide bo15; have F15 := hide f15; clear bo15 f15)
                      refine bodyPost_ret (v := .tuple #[v, .bool true, .nilIface]) (by simp [results, Tryf.results29, go_sem]) rfl ?_
                      rw [unhide STE2, unhide EPUT]
                      obtain ⟨f1, f2, f3, f4, f5⟩ := unhide F15
                      have hp14 : Part w14 K0 M := ((unhide HPT).kp (Kp.of_below (Gr.below ((Gr.refl W13).drewN nq)))).kp (unhide K14)
                      have fr14 : FrR K0 w w14 := ((unhide FR13).gr ((Gr.refl W13).drewN nq) (unhide HK0).1).trans (FrR.of_kp (unhide K14) (unhide L14))
                      have hge := gd_erase (unhide GD13) i (unhide HL4)
                      rw [unhide HG4, List.eraseIdx_set_eq] at hge
                      have fr15 : FrR K0 w14 w15 := by
                        refine ⟨⟨f1, f2, f3, f4, fun k hk => f5 k (by have h1 := (unhide HK0).1; have h2 := fr14.below.size; omega) (fun c => ?_)⟩, fun k cs t e e1 e2 e3 e4 => f5 k (lt_of_heap e) (fun c => ?_)⟩
                        · have := (hp14.2.2.own k c.symm).1
                          omega
                        · obtain ⟨-, cs', e'⟩ := hp14.2.2.own k c.symm
                          exact tag_ne e e' e4 rfl
                      refine ⟨_, _, ms3.eraseIdx i, rfl, Or.inr (unhide BO15), Or.inr ⟨rfl, rfl⟩, (unhide R14).but M.gv.ownBlock (fun k hk => (hp14.2.2.own k hk).2) hge f5, List.Pairwise.sublist (List.eraseIdx_sublist _ _) (unhide GD6), rfl, fr14.trans fr15⟩
                    · have eput : putA mx lim (ms3.map Msg.abs) i s = (([], false, false), room lim (ms3.map Msg.abs).length i ((ms3.map Msg.abs).set i (addA m.abs s))) := by
                        unfold putA
                        rw [hget]
                        show (if come s.part m.abs.got = true then _ else if mx < lenS m.abs.got + s.data.length then _ else if ((m.got.length + 1 : Nat) : Int) = m.parts then _ else _) = _
                        rw [hcm', if_neg (by simp), if_neg hcl', if_neg (by simpa using cw)]
                      have EPUT := hide eput
                      have K39 : Hid (∀ n, Calls Tryf.prog 39 #[.pointer (some ⟨R, 0, none⟩), .pointer (some ⟨m.pA, 0, none⟩)] (W13.drewN n) fun e w' => e = .returned (.tuple #[]) ∧ ∃ ms', RepR w' K0 R mx lt lim ms' ∧ ms'.map Msg.abs = room lim (ms3.set i M).length i ((ms3.set i M).map Msg.abs) ∧ ms'.Sublist (ms3.set i M) ∧ Kp (W13.drewN n) w' ∧ Below K0 (W13.drewN n) w') := fun n =>
                        roomRep (W13.drewN n) K0 R mx lt lim (ms3.set i M) i m.pA (unhide HL4) (by rw [unhide HG4, unhide HPA4]) ((unhide R13).below (Gr.below ((Gr.refl W13).drewN n))) (unhide OK4) (Nat.le_trans (unhide HK0).1 (unhide FR13).below.size)
                      clear eput hget hcm' hcl'
                      go_quiet (fail)
                      go_wp2_with (go_at_call 39; refine Calls.mono (unhide K39 _) ?_; rintro e w14 ⟨rfl, h14⟩; have H14 := hide h14; clear h14)
                      refine bodyPost_ret (v := .tuple #[.slice none 0 0, .bool false, .nilIface]) (by simp [results, Tryf.results29, go_sem]) rfl ?_
                      rw [unhide STE2, unhide EPUT]
                      obtain ⟨ms', r14, e14, s14, k14, l14⟩ := unhide H14
                      refine ⟨_, _, ms', rfl, Or.inr (Or.inl ⟨none, 0, rfl, rfl⟩), Or.inr ⟨rfl, rfl⟩, r14, List.Pairwise.sublist s14 (unhide GD13), ?_, ((unhide FR13).gr ((Gr.refl W13).drewN nq) (unhide HK0).1).trans (FrR.of_kp k14 l14)⟩
                      rw [e14, unhide HMP, List.length_set, List.length_map]
end Go.Proofs.Qxb6612998aFmt
