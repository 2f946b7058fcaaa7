import Derived.Test.Qxb6612998aFmtCol2
namespace Go.Proofs.Qxb6612998aFmt
open Go.RowKit Go.Sort Go.Extern.Stop Go.Stop Go.Extern

set_option maxHeartbeats 1000000 in
theorem addrPort_any (w : World) (port : Int) :
    Calls Tryf.prog 24 #[.agg #[.int .u64 0, .int .u64 0, .pointer none], .int .u16 port] w fun e w' => e = .returned (.agg #[.int .u64 0, .int .u64 0, .pointer none, .int .u16 port]) ∧ Gr w w' := by
  go_enter Tryf.func24, Tryf.ntmps24
  go_wp2_with fail
  exact bodyPost_ret (v := .agg #[.int .u64 0, .int .u64 0, .pointer none, .int .u16 port]) (by simp [results, Tryf.results24, go_sem]) rfl ⟨rfl, ((Gr.refl _).alloc _).alloc _⟩

theorem zzcost_any {w : World} {K0 R : Nat} {mx lt lim : Int} {ms : List Msg} (h : RepR w K0 R mx lt lim ms) :
    Calls Tryf.prog 26 #[.pointer (some ⟨R, 0, none⟩)] w fun e w' => e = .returned (.int .i64 (sumC ms)) ∧ w' = w := by
  obtain ⟨mp, rn, rp, hro, -⟩ := h.root
  have c9 : w.cell? ⟨R, 9, none⟩ = some (.int .i64 (sumC ms)) := cell_of hro 9
  clear h hro
  go_enter Tryf.func26, Tryf.ntmps26
  go_wp2_with fail
  go_ret
  exact ⟨rfl, rfl⟩

theorem zzorder_any {w : World} {K0 R : Nat} {mx lt lim : Int} {ms : List Msg} (h : RepR w K0 R mx lt lim ms) :
    Calls Tryf.prog 28 #[.pointer (some ⟨R, 0, none⟩)] w fun e w' => e = .returned (.int .i64 ms.length) ∧ w' = w := by
  obtain ⟨mp, rn, rp, hro, -⟩ := h.root
  have c8 : w.cell? ⟨R, 8, none⟩ = some (.int .i64 ms.length) := cell_of hro 8
  have K32 := hide (len_any R ms.length w c8)
  clear h hro c8
  go_enter Tryf.func28, Tryf.ntmps28
  go_wp2_with (go_at_call 32; refine Calls.mono (unhide K32) ?_; rintro e w1 ⟨rfl, rfl⟩)
  go_ret
  exact ⟨rfl, rfl⟩

theorem zzplen_any {w : World} {K0 R : Nat} {mx lt lim : Int} {ms : List Msg} (h : RepR w K0 R mx lt lim ms) :
    Calls Tryf.prog 27 #[.pointer (some ⟨R, 0, none⟩)] w fun e w' => e = .returned (.int .i64 ms.length) ∧ w' = w := by
  obtain ⟨mp, rn, rp, hro, hm⟩ := h.mapIs
  have c3 : w.cell? ⟨R, 3, none⟩ = some (.map mp) := cell_of hro 3
  rcases hm with ⟨rfl, hl⟩ | ⟨r, clock, rfl, hm⟩
  · have hl0 : ms = [] := by simpa using hl
    subst hl0
    clear h hro hl
    go_enter Tryf.func27, Tryf.ntmps27
    go_wp2_with fail
    go_ret
    exact ⟨rfl, rfl⟩
  · obtain ⟨arr, harr⟩ : ∃ a, a = ((ms.map Msg.ent).map Ent.me).toArray := ⟨_, rfl⟩
    have hsz : arr.size = ms.length := by rw [harr]; simp
    rw [← harr] at hm
    have hlen : (Builtin.len_ #[62] 3 #[.map (some r)]).run Tryf.prog w = .ok (.int .i64 (ms.length : Int)) w := by
      rw [run_len_map (P := Tryf.prog) w 62 3 r arr clock (by kernel_rfl) hm, hsz]; rfl
    clear h hro harr hm hsz
    go_enter Tryf.func27, Tryf.ntmps27
    go_wp2_with fail
    go_ret
    exact ⟨rfl, rfl⟩

theorem zznew_any (w : World) (K0 : Nat) (mx lt lim : Int) (hK : K0 ≤ w.heap.size) :
    Calls Tryf.prog 8 #[.int .i64 mx, .int .i64 lt, .int .i64 lim] w fun e w' => ∃ R, e = .returned (.pointer (some ⟨R, 0, none⟩)) ∧ RepR w' K0 R mx lt lim [] ∧ Gr w w' := by
  have K18 : Hid (Calls Tryf.prog 18 #[.int .i64 mx, .int .i64 lt, .int .i64 lim] w fun e w' => e = .returned (.pointer (some ⟨w.heap.size, 0, none⟩)) ∧ w' = w.alloc (.cells (rcells mx lt lim none none none 0 0) 70)) := by
    show Calls _ _ _ _ _
    unfold rcells
    go_enter Tryf.func18, Tryf.ntmps18
    go_wp2_with fail
    go_ret
    exact ⟨rfl, rfl⟩
  go_enter Tryf.func8, Tryf.ntmps8
  go_wp2_with (go_at_call 18; refine Calls.mono (unhide K18) ?_; rintro e w1 ⟨rfl, hw1⟩)
  go_ret
  refine ⟨_, rfl, ⟨hK, Or.inl ⟨rfl, ?_⟩⟩, ?_⟩
  · exact heap_alloc_new w _
  · exact (Gr.refl w).alloc _

theorem zzdrop_any {w : World} {K0 R : Nat} {mx lt lim : Int} {ms : List Msg} (h : RepR w K0 R mx lt lim ms) (hok : okS ms) (i : Nat) (hi : i < ms.length) :
    Calls Tryf.prog 15 #[.pointer (some ⟨R, 0, none⟩), .pointer (some ⟨(ms[i]).pA, 0, none⟩)] w fun e w' => e = .returned (.tuple #[]) ∧ RepR w' K0 R mx lt lim (ms.eraseIdx i) ∧ Kp w w' ∧ Below K0 w w' := by
  have K25 := hide (dropRep h hok.1 hok.2.1 hok.2.2.1 i hi)
  clear h hok
  go_enter Tryf.func15, Tryf.ntmps15
  go_wp2_with (go_at_call 25; refine Calls.mono (unhide K25) ?_; rintro e w1 ⟨rfl, hw1⟩; have HW := hide hw1; clear hw1)
  go_end0
  exact ⟨rfl, unhide HW⟩

theorem MapIs.gr {w w' : World} {mp : Option Nat} {l : List Ent} (h : MapIs w mp l) (g : Gr w w') : MapIs w' mp l := by
  rcases h with h | ⟨r, clock, e, h⟩
  · exact Or.inl h
  · exact Or.inr ⟨r, clock, e, (g.below.block _ (lt_of_heap h)).trans h⟩

set_option maxHeartbeats 2000000 in
theorem zzpending_any {w : World} {K0 R : Nat} {mx lt lim : Int} {ms : List Msg} (h : RepR w K0 R mx lt lim ms) (port seq : Int) :
    Calls Tryf.prog 14 #[.pointer (some ⟨R, 0, none⟩), .int .u16 port, .int .u16 seq] w fun e w' => e = .returned (lookV port seq (ms.map Msg.ent)) ∧ Gr w w' := by
  obtain ⟨mp, rn, rp, hro, hm⟩ := h.mapIs
  obtain ⟨lv, hlv⟩ : ∃ v, v = lookV port seq (ms.map Msg.ent) := ⟨_, rfl⟩
  have c3 : ∀ n os, (grow (w.drewN n) os).cell? ⟨R, 3, none⟩ = some (.map mp) := fun n os => cell_grown (a := ⟨R, 3, none⟩) (lt_of_heap hro) (cell_of hro 3) n os
  have hlk : ∀ n os, (Instr.lookup 62 (.map mp) (.agg #[.int .u64 0, .int .u64 0, .pointer none, .int .u16 port, .int .u16 seq]) false).run Tryf.prog (grow (w.drewN n) os) = .ok lv (grow (w.drewN n) os) := fun n os => by rw [hlv]; exact lookup_run _ mp _ port seq (hm.gr ⟨n, os, rfl⟩)
  have K24 : Hid (∀ W, Calls Tryf.prog 24 #[.agg #[.int .u64 0, .int .u64 0, .pointer none], .int .u16 port] W fun e w' => e = .returned (.agg #[.int .u64 0, .int .u64 0, .pointer none, .int .u16 port]) ∧ ∃ q os, w' = grow (W.drewN q) os) := fun W => addrPort_any W port
  rw [← hlv]
  have hmo : Tryf.prog.follows .mixedOrders = true := rfl
  clear h hro hm hlv
  go_enter Tryf.func14, Tryf.ntmps14
  go_wp2_with fail
  go_quiet_grown (first | (go_at_call 24; refine Calls.grown_of (unhide K24 _)))
  go_wp2_with fail
  go_ret
  exact ⟨rfl, ⟨nq, osq, rfl⟩⟩

set_option maxHeartbeats 2000000 in
theorem zzcollect_any (F : Interp) (w : World) (K0 R : Nat) (mx lt lim : Int) (ms : List Msg) (s : Stp) (oa : Option Addr) (dc : Nat) (B : Int) (hF : F.answers w.tape) (hK0 : K0 ≤ w.heap.size) (h : RepR w K0 R mx lt lim ms) (hgd : GD ms) (hok : okA (ms.map Msg.abs) B) (hB : B ≤ 8388608) (hs : okP s) (hv : BI w K0 (.slice oa s.data.length dc) s.data) :
    Calls Tryf.prog 19 #[.pointer (some ⟨R, 0, none⟩), .int .u16 s.port, .int .u8 s.flags, .int .u16 s.seq, .int .i64 s.part, .int .i64 s.parts, .slice oa s.data.length dc, .int .i64 s.now] w (Coll w K0 R mx lt lim (stepA mx lt lim (ms.map Msg.abs) s)) := by
  have K24 := hide (addrPort_any w s.port)
  have K30 : Hid (∀ W, Calls Tryf.prog 30 #[.agg #[.int .u64 0, .int .i64 0, .pointer none], .int .i64 s.now] W fun e w' => e = .returned (.agg (boxT (s.now % 1000000000) (s.now / 1000000000))) ∧ Gr W w') := fun W => by
    have q := add_any 0 0 s.now W ⟨by omega, by omega⟩ (by omega) (by omega) hs.now
    rw [Int.zero_add, Int.zero_add] at q
    exact q
  have K29 : Hid (∀ W, Gr w W → Calls Tryf.prog 29 #[.pointer (some ⟨R, 0, none⟩), .agg (box80 s.port), .agg (boxD s.flags s.seq s.part s.parts oa s.data.length dc), .agg (boxT (s.now % 1000000000) (s.now / 1000000000))] W (Coll w K0 R mx lt lim (stepA mx lt lim (ms.map Msg.abs) s))) := fun W g => by
    have q := collect_any F W K0 R mx lt lim ms s oa dc B (by rw [g.below.tape]; exact hF) (Nat.le_trans hK0 g.size) (h.below g.below) hgd hok hB hs (hv.below (g.below.mono hK0))
    refine q.mono ?_
    rintro e w' ⟨v, er, ms', h1, h2, h3, h4, h5, h6, h7⟩
    exact ⟨v, er, ms', h1, h2, h3, h4, h5, h6, (FrR.of_gr g hK0).trans h7⟩
  unfold box80 boxD boxT at K29
  unfold boxT at K30
  clear h hgd hok hs hv hF
  go_enter Tryf.func19, Tryf.ntmps19
  go_wp2_with (first
    | (go_at_call 24; refine Calls.mono (unhide K24) ?_; rintro e w1 ⟨rfl, g1⟩; have G1 := hide g1; clear g1)
    | (go_at_call 30; refine Calls.mono (unhide K30 _) ?_; rintro e w2 ⟨rfl, g2⟩; have G2 := hide g2; clear g2)
    | (go_at_call 29; refine Calls.mono (unhide K29 _ ((unhide G1).trans (unhide G2))) ?_; rintro e w3 ⟨v, er, ms', rfl, h3⟩; have H3 := hide h3; clear h3))
  refine bodyPost_ret (v := .tuple #[v, .bool (stepA mx lt lim (ms.map Msg.abs) s).1.2.1, er]) (by simp [results, Tryf.results19, go_sem]) rfl ?_
  exact ⟨v, er, ms', rfl, unhide H3⟩
end Go.Proofs.Qxb6612998aFmt
