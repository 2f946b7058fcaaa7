import Derived.Test.Qxb6612998aFmtPush
namespace Go.Proofs.Qxb6612998aFmt
open Go.RowKit Go.Sort

/-- The three boxed arguments of start. -/
def boxK (port seq : Int) : Array Value := #[.int .u64 0, .int .u64 0, .pointer none, .int .u16 port, .int .u16 seq]
def boxD (flags seq part parts : Int) (oa : Option Addr) (n c : Nat) : Array Value := #[.int .u8 flags, .int .u16 seq, .int .i64 part, .int .i64 parts, .slice oa n c]
def boxT (tn ts : Int) : Array Value := #[.int .u64 tn, .int .i64 ts, .pointer none]
/-- The Reassembly with a map, its list laid or not. -/
def Rdy (w : World) (K0 R : Nat) (mx lt lim : Int) (ms : List Msg) (r clock : Nat) (rn rp : Option Addr) : Prop := K0 ≤ R ∧ Root w R mx lt lim (some r) rn rp (ms.length : Int) (sumC ms) ∧ ((rn = none ∧ rp = none ∧ ms = []) ∨ (rn = some (At R (ms.map Msg.eA) 1) ∧ rp = some (At R (ms.map Msg.eA) (ms.map Msg.eA).length) ∧ Ring w R (ms.map Msg.eA) (ms.map Msg.pA))) ∧ w.heap[r]? = some (.map ((ms.map Msg.ent).map Ent.me).toArray clock) ∧ K0 ≤ r ∧ (∀ m ∈ ms, K0 ≤ m.eA) ∧ ∀ m ∈ ms, Part w K0 m

theorem RepR.two {w : World} {K0 R : Nat} {mx lt lim : Int} {ms : List Msg} (h : RepR w K0 R mx lt lim ms) : ∃ mp rn rp, Root w R mx lt lim mp rn rp (ms.length : Int) (sumC ms) ∧ ((mp = none ∧ ms = [] ∧ rn = none ∧ rp = none) ∨ ∃ r clock, mp = some r ∧ Rdy w K0 R mx lt lim ms r clock rn rp) := by
  obtain ⟨hK, ⟨rfl, h1⟩ | ⟨r, clock, ho, hr, hm, hKr, hKe, hp⟩⟩ := h
  · exact ⟨none, none, none, h1, Or.inl ⟨rfl, rfl, rfl, rfl⟩⟩
  · exact ⟨_, _, _, ho, Or.inr ⟨r, clock, rfl, hK, ho, Or.inr ⟨rfl, rfl, hr⟩, hm, hKr, hKe, hp⟩⟩
theorem eqMap (mp : Option Nat) (w : World) : (binOp .eql 62 (.map mp) (.map none)).run Tryf.prog w = .ok (.bool mp.isNone) w := by
  have h : ∀ d, (Op.equalIn (d + 1) 62 (.map mp) (.map none)).run Tryf.prog w = .ok mp.isNone w := fun d => by
    cases mp <;> simp [Op.equalIn, run_underlying Tryf.underlying62]
  simp only [binOp]
  simp [Op.equal, Op.maxDepth, h 9999]
theorem mkMap (w : World) : (Instr.makeMap 62 none).run Tryf.prog w = .ok (.map (some w.heap.size)) (w.alloc (.map #[] 0)) := by
  simp [Instr.makeMap]
/-- What start leaves. -/
def Started (w : World) (K0 R : Nat) (mx lt lim : Int) (ms : List Msg) (port seq flags parts tn ts : Int) (pA : Nat) (w' : World) : Prop := w.heap.size ≤ pA ∧ (∃ eA born, ∀ started mA, tn = started % 1000000000 → ts = started / 1000000000 → RepR w' K0 R mx lt lim (ms ++ [⟨port, seq, flags, parts, started, [], .slice none 0 0, pA, eA, born, mA⟩])) ∧ Kp w w' ∧ Below K0 w w'
theorem sumC_app : ∀ (a b : List Msg), sumC (a ++ b) = sumC a + sumC b
  | [], b => by simp [sumC]
  | m :: r, b => by simp only [List.cons_append, sumC, sumC_app r b]; omega
/-- What stands behind the map's making. -/
def Rd (w : World) (K0 R : Nat) (mx lt lim : Int) (ms : List Msg) (rn rp : Option Addr) (w' : World) : Prop := ∃ r clock, Rdy w' K0 R mx lt lim ms r clock rn rp ∧ Kp w w' ∧ Below K0 w w' ∧ w.heap.size ≤ w'.heap.size

set_option maxHeartbeats 2000000 in
set_option maxRecDepth 10000 in
theorem start_any (w : World) (K0 R : Nat) (mx lt lim : Int) (ms : List Msg) (port seq flags part parts tn ts : Int) (oa : Option Addr) (dn dc : Nat) (hK0 : K0 ≤ w.heap.size) (hl : ms.length ≤ 1099511627776) (hsum : sumC ms ≤ 1099511627776) (hlook : look port seq (ms.map Msg.ent) 0 = none)
    (h : RepR w K0 R mx lt lim ms) :
    Calls Tryf.prog 34 #[.pointer (some ⟨R, 0, none⟩), .agg (boxK port seq), .agg (boxD flags seq part parts oa dn dc), .agg (boxT tn ts)] w fun e w' => ∃ pA, e = .returned (.pointer (some ⟨pA, 0, none⟩)) ∧ Started w K0 R mx lt lim ms port seq flags parts tn ts pA w' := by
  obtain ⟨W0, hW0⟩ : ∃ W, W = ((w.alloc (.cells (boxK port seq) 83)).alloc (.cells (boxD flags seq part parts oa dn dc) 89)).alloc (.cells (boxT tn ts) 92) := ⟨_, rfl⟩
  have hs1 : (w.alloc (.cells (boxK port seq) 83)).heap.size = w.heap.size + 1 := by simp
  have hs2 : ((w.alloc (.cells (boxK port seq) 83)).alloc (.cells (boxD flags seq part parts oa dn dc) 89)).heap.size = w.heap.size + 2 := by simp
  have hb0 : Below w.heap.size w W0 := by rw [hW0]; exact (((Below.refl _ _).alloc (Nat.le_refl _) _).alloc (by simp) _).alloc (by simp; omega) _
  have kB : W0.heap[w.heap.size]? = some (.cells (boxK port seq) 83 (0, 0)) := by
    rw [hW0, Below.heap_alloc _ _ _ (by rw [hs2]; omega), Below.heap_alloc _ _ _ (by rw [hs1]; omega)]; exact heap_alloc_new _ _
  have kD : W0.heap[w.heap.size + 1]? = some (.cells (boxD flags seq part parts oa dn dc) 89 (0, 0)) := by
    rw [hW0, Below.heap_alloc _ _ _ (by rw [hs2]; omega), ← hs1]; exact heap_alloc_new _ _
  have kT : W0.heap[w.heap.size + 2]? = some (.cells (boxT tn ts) 92 (0, 0)) := by rw [hW0, ← hs2]; exact heap_alloc_new _ _
  have h0 := h.below hb0
  obtain ⟨mp, rn, rp, hroot, htwo⟩ := h0.two
  have heq := eqMap mp
  have c3 : W0.cell? ⟨R, 3, none⟩ = some (.map mp) := cell_of hroot 3
  have f3 : W0.frozen? ⟨R, 3, none⟩ = false := froz_of hroot 3
  have hRlt := lt_of_heap hroot
  have dR : ¬ R = W0.heap.size := by omega
  have HB := hide hb0
  have HKB := hide kB
  have HKD := hide kD
  have HKT := hide kT
  have H0 := hide h0
  have HW0 := hide hW0
  have HROOT := hide hroot
  clear h h0 hb0 kB kD kT hroot
  clear hs1 hs2 hW0
  unfold boxK boxD boxT at HW0 ⊢
  go_enter Tryf.func34, Tryf.ntmps34
  go_upto_region 1 with fail
  rw [← unhide HW0]
  go_upto_if 14 with fail
  go_cut [] (fun w' => Hid (Rd W0 K0 R mx lt lim ms rn rp w'))
  case first =>
    rcases htwo with ⟨rfl, rfl, rfl, rfl⟩ | ⟨r, clock, rfl, hrd⟩
    · have hmk := mkMap W0
      go_wp2_with fail
      go_meet
      case rel =>
        have hK : K0 ≤ R := (unhide H0).1
        have hs0 : K0 ≤ W0.heap.size := by omega
        have ho := unhide HROOT
        obtain ⟨WW, hWW⟩ : ∃ WW, WW = (W0.setCell ⟨R, 3, none⟩ (.map (some W0.heap.size))).alloc (.map #[] 0) := ⟨_, rfl⟩
        rw [← hWW]
        have hsc : (W0.setCell ⟨R, 3, none⟩ (.map (some W0.heap.size))).heap.size = W0.heap.size := size_setCell _ _ _
        have hsz : WW.heap.size = W0.heap.size + 1 := by rw [hWW, ← hsc]; simp
        have b0 : ∀ k, k < W0.heap.size → WW.heap[k]? = (W0.setCell ⟨R, 3, none⟩ (.map (some W0.heap.size))).heap[k]? := fun k hk => by rw [hWW]; exact Below.heap_alloc _ _ k (by rw [hsc]; exact hk)
        have b1 : ∀ k, k < W0.heap.size → k ≠ R → WW.heap[k]? = W0.heap[k]? := fun k hk h1 => by rw [b0 k hk, heap_set_other _ _ _ _ _ h1]
        refine ⟨W0.heap.size, 0, ⟨hK, ?_, Or.inl ⟨rfl, rfl, rfl⟩, ?_, hs0, fun m hm => by simp at hm, fun m hm => by simp at hm⟩, fun k cs t e e1 _ => b1 k (lt_of_heap e) (tag_ne e ho e1), ⟨by rw [hWW]; rfl, by rw [hWW]; rfl, by rw [hWW]; rfl, by omega, fun k hk => b1 k (by omega) (by omega)⟩, by omega⟩
        · unfold Root
          rw [b0 R hRlt, heap_setCell_row ho 3, rset3]
        · rw [hWW]
          have := heap_alloc_new (W0.setCell ⟨R, 3, none⟩ (.map (some W0.heap.size))) (.map #[] 0)
          rw [hsc] at this; exact this
    · have HRD := hide hrd
      clear hrd
      go_wp2_with fail
      go_meet
      case rel => exact ⟨r, clock, unhide HRD, Kp.refl _, Below.refl _ _, Nat.le_refl _⟩
  case rest =>
    rename World => w1
    obtain ⟨r, clock, rd, kp, bl, sz⟩ := unhide hcut
    have gK := (kp _ _ _ (unhide HKB) (by decide) (by decide)).trans (unhide HKB)
    have gD := (kp _ _ _ (unhide HKD) (by decide) (by decide)).trans (unhide HKD)
    have gT := (kp _ _ _ (unhide HKT) (by decide) (by decide)).trans (unhide HKT)
    have k0 : w1.cell? ⟨w.heap.size, 0, none⟩ = some (.int .u64 0) := cell_of gK 0
    have k1 : w1.cell? ⟨w.heap.size, 1, none⟩ = some (.int .u64 0) := cell_of gK 1
    have k2 : w1.cell? ⟨w.heap.size, 2, none⟩ = some (.pointer none) := cell_of gK 2
    have k3 : w1.cell? ⟨w.heap.size, 3, none⟩ = some (.int .u16 port) := cell_of gK 3
    have k4 : w1.cell? ⟨w.heap.size, 4, none⟩ = some (.int .u16 seq) := cell_of gK 4
    have k5 : w1.cell? ⟨w.heap.size + 1, 0, none⟩ = some (.int .u8 flags) := cell_of gD 0
    have k6 : w1.cell? ⟨w.heap.size + 1, 3, none⟩ = some (.int .i64 parts) := cell_of gD 3
    have k7 : w1.cell? ⟨w.heap.size + 1 + 1, 0, none⟩ = some (.int .u64 tn) := cell_of gT 0
    have k8 : w1.cell? ⟨w.heap.size + 1 + 1, 1, none⟩ = some (.int .i64 ts) := cell_of gT 1
    have k9 : w1.cell? ⟨w.heap.size + 1 + 1, 2, none⟩ = some (.pointer none) := cell_of gT 2
    have RD := hide rd
    have KPB := hide (And.intro kp (And.intro bl sz))
    have GK := hide gK
    clear rd kp bl sz gK gD gT hcut htwo heq c3 f3 hRlt dR HROOT H0 HW0
    go_upto_region 4 with fail
    obtain ⟨W3, hW3⟩ : ∃ W, W = w1.alloc (.cells #[.int .u64 0, .int .u64 0, .pointer none, .int .u16 port, .int .u16 seq, .int .u8 flags, .int .i64 parts, .slice none 0 0, .int .u64 0, .int .u64 0, .int .u64 0, .int .u64 0, .int .i64 0, .int .i64 256, .int .u64 tn, .int .i64 ts, .pointer none, .pointer none] 97) := ⟨_, rfl⟩
    rw [← hW3]
    have hb3 : Below w1.heap.size w1 W3 := by rw [hW3]; exact (Below.refl _ _).alloc (Nat.le_refl _) _
    have hs3 : W3.heap.size = w1.heap.size + 1 := by rw [hW3]; simp
    have pA3 : W3.heap[w1.heap.size]? = some (.cells (pcells port seq flags parts (.slice none 0 0) 0 0 0 0 0 256 tn ts none) 97 (0, 0)) := by rw [hW3]; exact heap_alloc_new _ _
    obtain ⟨hK, ho, hrr, hm, hKr, hKe, hp⟩ := unhide RD
    have hs : ∀ (k : Nat) (o : Obj), w1.heap[k]? = some o → W3.heap[k]? = some o := fun k o e => (hb3.block k (lt_of_heap e)).trans e
    have ho3 : Root W3 R mx lt lim (some r) rn rp (ms.length : Int) (sumC ms) := hs _ _ ho
    have KP : Hid (Calls Tryf.prog 47 #[.pointer (some ⟨R, 4, none⟩), .iface 39 (.pointer (some ⟨w1.heap.size, 0, none⟩))] W3 fun e w' => e = .returned (.pointer (some ⟨W3.heap.size, 0, none⟩)) ∧ Pushed W3 R (ms.map Msg.eA) (ms.map Msg.pA) mx lt lim (some r) (ms.length : Int) (sumC ms) w1.heap.size w') := by
      rcases hrr with ⟨e1, e2, e3⟩ | ⟨e1, e2, hr⟩
      · subst e1 e2 e3
        exact push_new ho3 w1.heap.size
      · subst e1 e2
        exact push_laid ⟨hr.1, hr.2.1, fun j h => hs _ _ (hr.getE j h)⟩ ho3 w1.heap.size (by omega)
    have hE3 : ∀ i (h : i < (ms.map Msg.eA).length), ∃ cs, w1.heap[(ms.map Msg.eA)[i]]? = some (.cells cs 66 (0, 0)) := fun i h => by
      rcases hrr with ⟨e1, e2, e3⟩ | ⟨e1, e2, hr⟩
      · subst e3; simp at h
      · exact ⟨_, hr.getE i h⟩
    have hst3 : Hid (Root W3 R mx lt lim (some r) rn rp (ms.length : Int) (sumC ms) ∧ W3.heap[r]? = some (.map ((ms.map Msg.ent).map Ent.me).toArray clock) ∧ W3.heap[w.heap.size]? = some (.cells (boxK port seq) 83 (0, 0))) := ⟨ho3, hs _ _ hm, hs _ _ (unhide GK)⟩
    have HP3 := hide pA3
    have HB3 := hide hb3
    have HS3 := hide hs3
    have HE3 := hide hE3
    clear k0 k1 k2 k3 k4 k5 k6 k7 k8 k9 hW3 hb3 hs3 pA3 hK ho hrr hm hKr hKe hp hs ho3 hE3
    go_upto_region 5 with (go_at_call 47; refine Calls.mono (unhide KP) ?_; rintro e w4 ⟨rfl, hpu⟩; have HPU := hide hpu; have p4 : w4.heap[w1.heap.size]? = some (.cells (pcells port seq flags parts (.slice none 0 0) 0 0 0 0 0 256 tn ts none) 97 (0, 0)) := (hpu.block _ (by rw [unhide HS3]; omega) (fun e => by rw [e] at HP3; exact tag_ne (unhide HP3) (unhide hst3).1 (by decide) rfl) (fun i h => by obtain ⟨cs, hcs⟩ := unhide HE3 i h; exact tag_ne (unhide HP3) (((unhide HB3).block _ (lt_of_heap hcs)).trans hcs) (by decide))).trans (unhide HP3); have c17 : w4.cell? ⟨w1.heap.size, 17, none⟩ = some (.pointer none) := cell_of p4 17; have f17 : w4.frozen? ⟨w1.heap.size, 17, none⟩ = false := froz_of p4 17; have P4 := hide p4; clear p4 hpu)
    obtain ⟨W5, hW5⟩ : ∃ W, W = w4.setCell ⟨w1.heap.size, 17, none⟩ (.pointer (some ⟨W3.heap.size, 0, none⟩)) := ⟨_, rfl⟩
    rw [← hW5]
    have hpu := unhide HPU
    have pE : ∀ B, B ≠ w1.heap.size → W5.heap[B]? = w4.heap[B]? := fun B h => by rw [hW5]; exact heap_set_other _ _ _ _ _ h
    have p5 : W5.heap[w1.heap.size]? = some (.cells (pcells port seq flags parts (.slice none 0 0) 0 0 0 0 0 256 tn ts (some ⟨W3.heap.size, 0, none⟩)) 97 (0, 0)) := by rw [hW5, heap_setCell_row (unhide P4) 17]; rfl
    have dR5 : R ≠ w1.heap.size := fun e => by have h1 := hpu.root; rw [e] at h1; exact tag_ne (unhide P4) h1 (by decide) rfl
    have o5 : Root W5 R mx lt lim (some r) (some (At R (ms.map Msg.eA ++ [W3.heap.size]) 1)) (some (At R (ms.map Msg.eA ++ [W3.heap.size]) (ms.map Msg.eA ++ [W3.heap.size]).length)) ((ms.length : Int) + 1) (sumC ms) := (pE R dR5).trans hpu.root
    have r5 : Ring W5 R (ms.map Msg.eA ++ [W3.heap.size]) (ms.map Msg.pA ++ [w1.heap.size]) := ⟨hpu.ring.1, hpu.ring.2.1, fun j h => (pE _ (tag_ne (hpu.ring.getE j h) (unhide P4) (by decide))).trans (hpu.ring.getE j h)⟩
    have old5 : ∀ (k : Nat) (o : Obj), W3.heap[k]? = some o → k ≠ R → k ≠ w1.heap.size → (∀ i (h : i < (ms.map Msg.eA).length), k ≠ (ms.map Msg.eA)[i]) → W5.heap[k]? = some o := fun k o e a b c => by rw [pE k b, hpu.block k (lt_of_heap e) a c]; exact e
    have hE3 : ∀ i (h : i < (ms.map Msg.eA).length), ∃ cs, W3.heap[(ms.map Msg.eA)[i]]? = some (.cells cs 66 (0, 0)) := fun i h => by
      obtain ⟨cs, hcs⟩ := unhide HE3 i h
      exact ⟨cs, ((unhide HB3).block _ (lt_of_heap hcs)).trans hcs⟩
    have m5 : W5.heap[r]? = some (.map ((ms.map Msg.ent).map Ent.me).toArray clock) := old5 r _ (unhide hst3).2.1 (fun e => by have h1 := (unhide hst3).1; unfold Root at h1; rw [← e, (unhide hst3).2.1] at h1; cases h1) (fun e => by have h1 := unhide HP3; rw [← e, (unhide hst3).2.1] at h1; cases h1) (fun i h e => by obtain ⟨cs, hcs⟩ := hE3 i h; rw [← e, (unhide hst3).2.1] at hcs; cases hcs)
    have kp3 : ∀ (k : Nat) (cs : Array Value) (t : TypeId), W3.heap[k]? = some (.cells cs t (0, 0)) → t ≠ 70 → t ≠ 66 → t ≠ 97 ∨ k ≠ w1.heap.size → W5.heap[k]? = some (.cells cs t (0, 0)) := fun k cs t e e1 e2 e3 => old5 k _ e (tag_ne e (unhide hst3).1 e1) (by
      rcases e3 with e3 | e3
      · exact tag_ne e (unhide HP3) e3
      · exact e3) (fun i h => by obtain ⟨cs', hcs⟩ := hE3 i h; exact tag_ne e hcs e2)
    have g5 : W5.heap[w.heap.size]? = some (.cells (boxK port seq) 83 (0, 0)) := kp3 _ _ _ (unhide hst3).2.2 (by decide) (by decide) (Or.inl (by decide))
    have q3 : W5.cell? ⟨R, 3, none⟩ = some (.map (some r)) := cell_of o5 3
    have k0 : W5.cell? ⟨w.heap.size, 0, none⟩ = some (.int .u64 0) := cell_of g5 0
    have k1 : W5.cell? ⟨w.heap.size, 1, none⟩ = some (.int .u64 0) := cell_of g5 1
    have k2 : W5.cell? ⟨w.heap.size, 2, none⟩ = some (.pointer none) := cell_of g5 2
    have k3 : W5.cell? ⟨w.heap.size, 3, none⟩ = some (.int .u16 port) := cell_of g5 3
    have k4 : W5.cell? ⟨w.heap.size, 4, none⟩ = some (.int .u16 seq) := cell_of g5 4
    have hupd : (Instr.mapUpdate 62 (.map (some r)) (.agg #[.int .u64 0, .int .u64 0, .pointer none, .int .u16 port, .int .u16 seq]) (.pointer (some ⟨w1.heap.size, 0, none⟩))).run Tryf.prog W5.drew = .ok () (putM W5.drew r (.map (((ms.map Msg.ent) ++ [(⟨port, seq, w1.heap.size, clock⟩ : Ent)]).map Ent.me).toArray (clock + 1))) := update_run W5.drew r clock (ms.map Msg.ent) port seq w1.heap.size m5 hlook
    obtain ⟨W6, hW6⟩ : ∃ W, W = putM W5.drew r (.map (((ms.map Msg.ent) ++ [(⟨port, seq, w1.heap.size, clock⟩ : Ent)]).map Ent.me).toArray (clock + 1)) := ⟨_, rfl⟩
    rw [← hW6] at hupd
    have b6 : ∀ k, k ≠ r → W6.heap[k]? = W5.heap[k]? := fun k hk => by rw [hW6]; exact putM_other W5.drew r _ k hk
    have dRr : R ≠ r := fun e => by have h1 := o5; unfold Root at h1; rw [e, m5] at h1; cases h1
    have dpr : w1.heap.size ≠ r := fun e => by rw [e, m5] at p5; cases p5
    have o6 : Root W6 R mx lt lim (some r) (some (At R (ms.map Msg.eA ++ [W3.heap.size]) 1)) (some (At R (ms.map Msg.eA ++ [W3.heap.size]) (ms.map Msg.eA ++ [W3.heap.size]).length)) ((ms.length : Int) + 1) (sumC ms) := (b6 R dRr).trans o5
    have p6 := (b6 _ dpr).trans p5
    have q9 : W6.cell? ⟨R, 9, none⟩ = some (.int .i64 (sumC ms)) := cell_of o6 9
    have q13 : W6.cell? ⟨w1.heap.size, 13, none⟩ = some (.int .i64 256) := cell_of p6 13
    have qf : W6.frozen? ⟨R, 9, none⟩ = false := froz_of o6 9
    have ew : IntKind.i64.wrap (sumC ms + 256) = sumC ms + 256 := by have := (sumC_ge ms).1; rw [IntKind.wrap_i64]; omega
    have FIN : Hid (Started w K0 R mx lt lim ms port seq flags parts tn ts w1.heap.size (W6.drew.setCell ⟨R, 9, none⟩ (.int .i64 (sumC ms + 256)))) := by
      obtain ⟨hK, ho, hrr, hm, hKr, hKe, hp⟩ := unhide RD
      obtain ⟨kp1, bl1, sz1⟩ := unhide KPB
      have szW : w.heap.size ≤ w1.heap.size := Nat.le_trans (unhide HB).size sz1
      have hs3 := unhide HS3
      obtain ⟨W7, hW7⟩ : ∃ W, W = W6.drew.setCell ⟨R, 9, none⟩ (.int .i64 (sumC ms + 256)) := ⟨_, rfl⟩
      rw [← hW7]
      have b7 : ∀ k, k ≠ R → W7.heap[k]? = W6.heap[k]? := fun k hk => by rw [hW7, heap_set_other _ _ _ _ _ hk, drew_heap]
      have kp17 : Kp w1 W7 := fun k cs t e e1 e2 => by
        have e3 : W3.heap[k]? = some (.cells cs t (0, 0)) := ((unhide HB3).block k (lt_of_heap e)).trans e
        have e5 := kp3 k cs t e3 e1 e2 (Or.inr (Nat.ne_of_lt (lt_of_heap e)))
        have hkr : k ≠ r := fun c => by rw [c, m5] at e5; cases e5
        rw [b7 k (tag_ne e5 o5 e1), b6 k hkr, e5, e]
      have kpw : Kp w W7 := ((Kp.of_below (unhide HB)).trans kp1).trans kp17
      have blw : Below K0 w W7 := by
        have hsz5 : W5.heap.size = W3.heap.size + 1 := by rw [hW5, size_setCell]; exact hpu.size
        have hsz7 : W7.heap.size = W3.heap.size + 1 := by rw [hW7, size_setCell, drew_heap, hW6, putM_size, drew_heap]; exact hsz5
        have b01 : Below K0 w w1 := ((unhide HB).mono hK0).trans bl1
        have b13 : Below K0 w W3 := b01.trans ((unhide HB3).mono (by omega))
        refine ⟨?_, ?_, ?_, by omega, fun k hk => ?_⟩
        · rw [hW7, sc_os, dr_os, hW6, pm_os, dr_os, hW5, sc_os, hpu.os]; exact b13.os
        · rw [hW7, sc_tape, dr_tape, hW6, pm_tape, dr_tape, hW5, sc_tape, hpu.tape]; exact b13.tape
        · rw [hW7, sc_output, dr_output, hW6, pm_output, dr_output, hW5, sc_output, hpu.output]; exact b13.output
        · rw [b7 k (by omega), b6 k (by omega), pE k (by omega), hpu.block k (by omega) (by omega) (fun i h => by
            have := hKe (ms[i]'(by simpa using h)) (List.getElem_mem _)
            simp; omega)]
          exact b13.block k hk
      refine ⟨szW, ⟨W3.heap.size, clock, fun started mA e1 e2 => ?_⟩, kpw, blw⟩
      refine ⟨hK, Or.inr ⟨r, clock + 1, ?_, ?_, ?_, hKr, ?_, ?_⟩⟩
      · rw [sumC_app]
        simp only [List.map_append, List.map_cons, List.map_nil, List.length_append, List.length_cons, List.length_nil, sumC, Msg.cost, costS]
        unfold Root
        rw [hW7, heap_setCell_row (show W6.drew.heap[R]? = _ from o6) 9, rset9]
        simp
      · simp only [List.map_append, List.map_cons, List.map_nil]
        exact ⟨r5.1, r5.2.1, fun j h => by
          rw [b7 _ (tag_ne (r5.getE j h) o5 (by decide)), b6 _ (fun c => by have := r5.getE j h; rw [c, m5] at this; cases this)]; exact r5.getE j h⟩
      · rw [b7 r dRr.symm, hW6, putM_same (w := W5.drew) _ m5]
        simp [Msg.ent]
      · intro m hm'
        rcases List.mem_append.1 hm' with h | h
        · exact hKe m h
        · simp at h; subst h; show K0 ≤ W3.heap.size; omega
      · intro m hm'
        rcases List.mem_append.1 hm' with h | h
        · exact (hp m h).kp kp17
        · simp at h
          subst h
          refine ⟨?_, by show K0 ≤ w1.heap.size; omega, [], World.ownsRow_nil _ _ _ _, fun i hi => absurd hi (by simp)⟩
          rw [b7 _ (tag_ne p6 o6 (by decide)), p6]
          unfold Msg.pc
          simp only [bitS, bitN, lenS, costS, e1, e2]
          rfl
    have HW5 := hide hW5
    have HW6 := hide hW6
    clear hW5 hW6 c17 f17 hpu pE p5 dR5 o5 r5 old5 hE3 m5 kp3 g5 b6 dRr dpr o6 p6
    go_region
    go_wp2_with fail
    go_region
    go_wp2_with fail
    go_ret
    exact ⟨w1.heap.size, rfl, unhide FIN⟩
end Go.Proofs.Qxb6612998aFmt
