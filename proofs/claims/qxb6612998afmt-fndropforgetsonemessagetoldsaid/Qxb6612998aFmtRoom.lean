import Derived.Test.Qxb6612998aFmtAbs
namespace Go.Proofs.Qxb6612998aFmt
open Go.RowKit Go.Sort

theorem RepR.ring {w : World} {K0 R : Nat} {mx lt lim : Int} {ms : List Msg} (h : RepR w K0 R mx lt lim ms) : Ring w R (ms.map Msg.eA) (ms.map Msg.pA) := by
  obtain ⟨hK, ⟨rfl, h1⟩ | ⟨r, clock, ho, hr, -⟩⟩ := h
  · exact ⟨rfl, List.nodup_nil, fun j h => absurd h (by simp)⟩
  · exact hr
theorem RepR.part {w : World} {K0 R : Nat} {mx lt lim : Int} {ms : List Msg} (h : RepR w K0 R mx lt lim ms) : ∀ m ∈ ms, Part w K0 m := by
  obtain ⟨hK, ⟨rfl, h1⟩ | ⟨r, clock, ho, hr, hm, hKr, hKe, hp⟩⟩ := h
  · simp
  · exact hp
/-- What Next answers behind the first. -/
def next (ms : List Msg) : Option Addr := match ms with
  | _ :: x :: _ => some ⟨x.eA, 0, none⟩
  | _ => none
set_option maxHeartbeats 1000000 in
theorem nextRep {w : World} {K0 R : Nat} {mx lt lim : Int} {m : Msg} {ms : List Msg} (h : RepR w K0 R mx lt lim (m :: ms)) :
    Calls Tryf.prog 53 #[.pointer (some ⟨m.eA, 0, none⟩)] w fun e w' => e = .returned (.pointer (next (m :: ms))) ∧ Gr w w' := by
  have hr := h.ring.getE 0 (by simp)
  obtain ⟨mp, rn, rp, hroot, -⟩ := h.root
  have c0 : w.cell? ⟨m.eA, 0, none⟩ = some (.pointer (some (At R ((m :: ms).map Msg.eA) 2))) := cell_of hr 0
  have c2 : w.cell? ⟨m.eA, 2, none⟩ = some (.pointer (some ⟨R, 4, none⟩)) := cell_of hr 2
  have c2' : ∀ q, (w.drewN q).cell? ⟨m.eA, 2, none⟩ = some (.pointer (some ⟨R, 4, none⟩)) := fun _ => c2
  cases ms with
  | nil =>
    have e : At R ([m].map Msg.eA) 2 = ⟨R, 4, none⟩ := rfl
    rw [e] at c0
    have hq := fun w => nq63_same w ⟨R, 4, none⟩
    show Calls Tryf.prog 53 _ w fun e w' => e = .returned (.pointer none) ∧ Gr w w'
    go_enter Tryf.func53, Tryf.ntmps53
    go_wp2_with fail
    go_ret
    exact ⟨rfl, Gr.refl _⟩
  | cons x rest =>
    have hx := h.ring.getE 1 (by simp)
    have e : At R ((m :: x :: rest).map Msg.eA) 2 = ⟨x.eA, 0, none⟩ := rfl
    rw [e] at c0
    have dx : x.eA ≠ R := tag_ne hx hroot (by decide)
    have hq := nq63_other w (a := ⟨x.eA, 0, none⟩) (b := ⟨R, 4, none⟩) (fun h => dx (by injection h)) hx hroot
    show Calls Tryf.prog 53 _ w fun e w' => e = .returned (.pointer (some ⟨x.eA, 0, none⟩)) ∧ Gr w w'
    clear hx hroot hr
    go_enter Tryf.func53, Tryf.ntmps53
    go_wp2_with fail
    go_ret
    exact ⟨rfl, Gr.refl _⟩
theorem okS.second {m x : Msg} {ms : List Msg} (h : okS (m :: x :: ms)) : okS (m :: ms) := by
  obtain ⟨h1, h2, h3, h4⟩ := h
  have hc : 256 ≤ x.cost := costS_pos x.got
  simp only [sumC, List.length_cons] at h2 h3
  refine ⟨List.Pairwise.sublist (by simp) h1, by simp only [sumC]; omega, by simp only [List.length_cons]; omega, fun y hy => h4 y ?_⟩
  rcases List.mem_cons.1 hy with rfl | hy
  · simp
  · simp [hy]

set_option maxHeartbeats 4000000 in
set_option maxRecDepth 10000 in
theorem roomRep (w : World) (K0 R : Nat) (mx lt lim : Int) (ms : List Msg) (i : Nat) (pa : Nat) (hi : i < ms.length) (hpa : pa = (ms[i]).pA) (h : RepR w K0 R mx lt lim ms) (hk : okS ms) (hK : K0 ≤ w.heap.size) :
    Calls Tryf.prog 39 #[.pointer (some ⟨R, 0, none⟩), .pointer (some ⟨pa, 0, none⟩)] w fun e w' => e = .returned (.tuple #[]) ∧ ∃ ms', RepR w' K0 R mx lt lim ms' ∧ ms'.map Msg.abs = room lim ms.length i (ms.map Msg.abs) ∧ ms'.Sublist ms ∧ Kp w w' ∧ Below K0 w w' := by
  have H0 := hide h
  have HK := hide hk
  have HKS := hide hK
  have HP : Hid (∃ h : i < ms.length, pa = (ms[i]).pA) := ⟨hi, hpa⟩
  clear h hk hi hpa hK
  go_enter Tryf.func39, Tryf.ntmps39
  go_wp2_with fail
  go_loopg [4] ms.length (fun g ev w' => ∃ (ms' : List Msg) (i' : Nat), g = ms'.length ∧ Hid (∃ h : i' < ms'.length, pa = (ms'[i']).pA) ∧ Hid (RepR w' K0 R mx lt lim ms') ∧ Hid (okS ms') ∧ Hid (room lim ms'.length i' (ms'.map Msg.abs) = room lim ms.length i (ms.map Msg.abs)) ∧ Hid (ms'.Sublist ms) ∧ Hid (Kp w w' ∧ Below K0 w w'))
  case atStart => exact ⟨ms, i, rfl, HP, H0, HK, rfl, List.Sublist.refl _, Kp.refl _, Below.refl _ _⟩
  case round =>
    clear HK H0 HP
    obtain ⟨ms', i', hg, HP, HR, HK, HD, HSL, HB⟩ := hrel
    have HG := hide hg
    clear hg
    obtain ⟨mp, rn, rp, hroot, -⟩ := (unhide HR).root
    have b9 : ∀ n, (wr.drewN n).cell? ⟨R, 9, none⟩ = some (.int .i64 (sumC ms')) := fun n => cell_of hroot 9
    have b2 : ∀ n, (wr.drewN n).cell? ⟨R, 2, none⟩ = some (.int .i64 lim) := fun n => cell_of hroot 2
    clear hroot
    by_cases c : lim < sumC ms'
    · cases ms' with
      | nil => exfalso; obtain ⟨h, -⟩ := unhide HP; simp at h
      | cons m rest =>
        have hgr : ∀ n, RepR (wr.drewN n) K0 R mx lt lim (m :: rest) := fun n => (unhide HR).below (Gr.below (Gr.drewN (Gr.refl wr) n))
        have K45 : Hid (∀ n, Calls Tryf.prog 45 #[.pointer (some ⟨R, 4, none⟩)] (wr.drewN n) fun e w' => e = .returned (.pointer (some ⟨m.eA, 0, none⟩)) ∧ w' = wr.drewN n) := fun n => frontRep (hgr n)
        obtain ⟨f3, fe, fp⟩ := (unhide HR).first
        have hcA : lim < sumA ((m :: rest).map Msg.abs) := by rw [sumA_map]; exact c
        have HCA := hide hcA
        clear hcA
        cases i' with
        | succ i'' =>
          obtain ⟨hi1, hpa1⟩ := unhide HP
          have hne : m.pA ≠ pa := by rw [hpa1]; exact (unhide HR).apart (unhide HK).1 0 (i'' + 1) (by simp) hi1 (by omega)
          have fq : wr.heap[pa]? = some (.cells ((m :: rest)[i'' + 1]'hi1).pc 97 (0, 0)) := by rw [hpa1]; exact ((unhide HR).part _ (List.getElem_mem hi1)).1
          have heq : ∀ n, (binOp .eql 20 (.iface 39 (.pointer (some ⟨m.pA, 0, none⟩))) (.iface 39 (.pointer (some ⟨pa, 0, none⟩)))).run Tryf.prog (wr.drewN n) = .ok (.bool false) (wr.drewN n) := fun n => eqI_other (wr.drewN n) (a := ⟨m.pA, 0, none⟩) (b := ⟨pa, 0, none⟩) (fun h => hne (by injection h)) fp.1 fq
          have hta := assert39 (.pointer (some ⟨m.pA, 0, none⟩))
          have f3' : ∀ n, (wr.drewN n).cell? ⟨m.eA, 3, none⟩ = some (.iface 39 (.pointer (some ⟨m.pA, 0, none⟩))) := fun _ => f3
          have KD25 : Hid (∀ n, Calls Tryf.prog 25 #[.pointer (some ⟨R, 0, none⟩), .pointer (some ⟨m.pA, 0, none⟩)] (wr.drewN n) fun e w' => e = .returned (.tuple #[]) ∧ RepR w' K0 R mx lt lim rest ∧ Kp (wr.drewN n) w' ∧ Below K0 (wr.drewN n) w') := fun n => dropRep (hgr n) (unhide HK).1 (unhide HK).2.1 (unhide HK).2.2.1 0 (by simp)
          have HPA := hide hpa1
          clear fp fq hgr hne hpa1 f3
          go_wp2_with fail
          go_quiet (fail)
          go_wp2_with (first | (go_at_call 45; refine Calls.mono (unhide K45 _) ?_; rintro e w8 ⟨rfl, rfl⟩) | (go_at_call 25; refine Calls.mono (unhide KD25 _) ?_; rintro e w9 ⟨rfl, r9, k9, l9⟩; have R9 := hide r9; have K9 := hide k9; have L9 := hide l9; clear r9 k9 l9))
          go_roundg rest.length
          case measure => rw [unhide HG]; simp
          case rel =>
            refine ⟨rest, i'', rfl, ⟨by simpa using hi1, by rw [unhide HPA]; rfl⟩, R9, (unhide HK).tail, ?_, List.Sublist.trans (List.sublist_cons_self _ _) (unhide HSL), (unhide HB).1.trans ((Kp.of_below ((Gr.refl wr).drewN nq).below).trans (unhide K9)), (unhide HB).2.trans ((((Gr.refl wr).drewN nq).below.mono (Nat.le_trans (unhide HKS) (unhide HB).2.size)).trans (unhide L9))⟩
            refine Eq.trans ?_ (unhide HD)
            exact (room_first lim rest.length i'' m.abs (rest.map Msg.abs) (unhide HCA)).symm
        | zero =>
          obtain ⟨hi1, hpa1⟩ := unhide HP
          have hpa2 : pa = m.pA := hpa1
          subst hpa2
          have heq : ∀ w, (binOp .eql 20 (.iface 39 (.pointer (some ⟨m.pA, 0, none⟩))) (.iface 39 (.pointer (some ⟨m.pA, 0, none⟩)))).run Tryf.prog w = .ok (.bool true) w := fun w => eqI_same w ⟨m.pA, 0, none⟩
          have f3' : ∀ n, (wr.drewN n).cell? ⟨m.eA, 3, none⟩ = some (.iface 39 (.pointer (some ⟨m.pA, 0, none⟩))) := fun _ => f3
          have KN : Hid (∀ n, Calls Tryf.prog 53 #[.pointer (some ⟨m.eA, 0, none⟩)] (wr.drewN n) fun e w' => e = .returned (.pointer (next (m :: rest))) ∧ Gr (wr.drewN n) w') := fun n => nextRep (hgr n)
          clear hpa1 f3 fp
          cases rest with
          | nil =>
            have e0 : next [m] = none := rfl
            rw [e0] at KN
            clear hgr
            go_wp2_with fail
            go_quiet (fail)
            go_wp2_with (first | (go_at_call 45; refine Calls.mono (unhide K45 _) ?_; rintro e w8 ⟨rfl, rfl⟩) | (go_at_call 53; refine Calls.mono (unhide KN _) ?_; rintro e w9 ⟨rfl, g9⟩; have G9 := hide g9; clear g9))
            refine bodyPost_ret (v := .tuple #[]) (by simp [results, Tryf.results39, go_sem]) rfl ?_
            have g9 := ((Gr.refl wr).drewN nq).trans (unhide G9)
            refine ⟨rfl, [m], (unhide HR).below g9.below, ?_, unhide HSL, (unhide HB).1.trans (Kp.of_below g9.below), (unhide HB).2.trans (g9.below.mono (Nat.le_trans (unhide HKS) (unhide HB).2.size))⟩
            refine Eq.trans ?_ (unhide HD)
            exact (room_one lim _ m.abs).symm
          | cons x rs =>
            have e0 : next (m :: x :: rs) = some ⟨x.eA, 0, none⟩ := rfl
            rw [e0] at KN
            have hx := (unhide HR).ring.getE 1 (by simp)
            have x3 : wr.cell? ⟨x.eA, 3, none⟩ = some (.iface 39 (.pointer (some ⟨x.pA, 0, none⟩))) := cell_of hx 3
            have lx := lt_of_heap hx
            have hta := assert39 (.pointer (some ⟨x.pA, 0, none⟩))
            have KD25 : Hid (∀ W, Gr wr W → Calls Tryf.prog 25 #[.pointer (some ⟨R, 0, none⟩), .pointer (some ⟨x.pA, 0, none⟩)] W fun e w' => e = .returned (.tuple #[]) ∧ RepR w' K0 R mx lt lim (m :: rs) ∧ Kp W w' ∧ Below K0 W w') := fun W g => dropRep ((unhide HR).below g.below) (unhide HK).1 (unhide HK).2.1 (unhide HK).2.2.1 1 (by simp)
            clear hgr hx
            go_wp2_with fail
            go_quiet (fail)
            go_wp2_with (first | (go_at_call 45; refine Calls.mono (unhide K45 _) ?_; rintro e w8 ⟨rfl, rfl⟩) | (go_at_call 53; refine Calls.mono (unhide KN _) ?_; rintro e w9 ⟨rfl, g9⟩; have G9 := hide (((Gr.refl wr).drewN nq).trans g9); have x3' : w9.cell? ⟨x.eA, 3, none⟩ = some (.iface 39 (.pointer (some ⟨x.pA, 0, none⟩))) := (unhide G9).cell lx x3; clear g9) | (go_at_call 25; refine Calls.mono (unhide KD25 _ (unhide G9)) ?_; rintro e wa ⟨rfl, r9, k9, l9⟩; have R9 := hide r9; have K9 := hide k9; have L9 := hide l9; clear r9 k9 l9))
            go_roundg (m :: rs).length
            case measure => rw [unhide HG]; simp
            case rel =>
              have g9 := unhide G9
              refine ⟨m :: rs, 0, rfl, ⟨by simp, rfl⟩, R9, (unhide HK).second, ?_, List.Sublist.trans (by simp) (unhide HSL), (unhide HB).1.trans ((Kp.of_below g9.below).trans (unhide K9)), (unhide HB).2.trans ((g9.below.mono (Nat.le_trans (unhide HKS) (unhide HB).2.size)).trans (unhide L9))⟩
              refine Eq.trans ?_ (unhide HD)
              exact (room_second lim (rs.length + 1) m.abs x.abs (rs.map Msg.abs) (unhide HCA)).symm
    · go_wp2_with fail
      go_quiet (fail)
      go_wp2_with fail
      go_end0
      have g9 := (Gr.refl wr).drewN nq
      refine ⟨rfl, ms', (unhide HR).below g9.below, ?_, unhide HSL, (unhide HB).1.trans (Kp.of_below g9.below), (unhide HB).2.trans (g9.below.mono (Nat.le_trans (unhide HKS) (unhide HB).2.size))⟩
      refine Eq.trans ?_ (unhide HD)
      exact (room_keep lim _ _ _ (by rw [sumA_map]; omega)).symm
end Go.Proofs.Qxb6612998aFmt
