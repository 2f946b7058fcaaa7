import Derived.Test.Qxb6612998aFmtMst
namespace Go.Proofs.Qxb6612998aFmt
open Go.RowKit Go.Sort

theorem findA_mem (p s : Int) : ∀ (aa : List Abs) (i : Nat), (∃ a ∈ aa, a.port = p ∧ a.seq = s) → ∃ j, findA p s aa i = some j
  | [], _, h => by obtain ⟨a, h, -⟩ := h; simp at h
  | a :: r, i, h => by
    simp only [findA]
    by_cases c : p = a.port ∧ s = a.seq
    · exact ⟨i, by rw [if_pos c]⟩
    · rw [if_neg c]
      refine findA_mem p s r (i + 1) ?_
      obtain ⟨b, hb, h1, h2⟩ := h
      rcases List.mem_cons.1 hb with rfl | hb
      · exact absurd ⟨h1.symm, h2.symm⟩ c
      · exact ⟨b, hb, h1, h2⟩
theorem lookV_some {ms : List Msg} {p s : Int} (h : ∃ a ∈ ms.map Msg.abs, a.port = p ∧ a.seq = s) : ∃ A, lookV p s (ms.map Msg.ent) = .pointer (some ⟨A, 0, none⟩) := by
  obtain ⟨j, hj⟩ := findA_mem p s (ms.map Msg.abs) 0 h
  obtain ⟨h1, h2⟩ := find_look _ _ _ _ _ hj
  exact ⟨_, by rw [lookV, h2]⟩

set_option maxHeartbeats 4000000 in
set_option maxRecDepth 10000 in
theorem same_any {w : World} {K0 R M : Nat} {mx lt lim : Int} {ms : List Msg} {mv : Value} {xs : List MM} (hR : RepR w K0 R mx lt lim ms) (hM : RepM w K0 M mx lt lim mv xs) (he : ms.map Msg.abs = xs.map Prod.snd) (hl : xs.length ≤ 1099511627776) :
    Calls Tryf.prog 17 #[.pointer (some ⟨R, 0, none⟩), .pointer (some ⟨M, 0, none⟩)] w fun e w' => e = .returned (.bool true) ∧ Gr w w' := by
  have hmo : Tryf.prog.follows .mixedOrders = true := hmo
  obtain ⟨oa, c, rfl⟩ := hM.shape
  have hlen : ms.length = xs.length := by have := congrArg List.length he; simpa using this
  have hsum : sumC ms = sumA (xs.map Prod.snd) := by rw [← he, sumA_map]
  have c3 : w.cell? ⟨M, 3, none⟩ = some (.slice oa xs.length c) := cell_of hM.root 3
  obtain ⟨S, hS⟩ : ∃ S, S = sumA (xs.map Prod.snd) := ⟨_, rfl⟩
  have c4 : ∀ n, (w.drewN n).cell? ⟨M, 4, none⟩ = some (.int .i64 S) := fun _ => by rw [hS]; exact cell_of hM.root 4
  have hB : ∀ n, Below w.heap.size w (w.drewN n) := fun n => Gr.below ((Gr.refl w).drewN n)
  have K26 : Hid (∀ n, Calls Tryf.prog 26 #[.pointer (some ⟨R, 0, none⟩)] (w.drewN n) fun e w' => e = .returned (.int .i64 S) ∧ w' = w.drewN n) := fun n => by
    rw [hS, ← hsum]; exact zzcost_any (hR.below (hB n))
  have K27 : Hid (∀ n, Calls Tryf.prog 27 #[.pointer (some ⟨R, 0, none⟩)] (w.drewN n) fun e w' => e = .returned (.int .i64 xs.length) ∧ w' = w.drewN n) := fun n => by
    rw [← hlen]; exact zzplen_any (hR.below (hB n))
  have K28 : Hid (∀ n, Calls Tryf.prog 28 #[.pointer (some ⟨R, 0, none⟩)] (w.drewN n) fun e w' => e = .returned (.int .i64 xs.length) ∧ w' = w.drewN n) := fun n => by
    rw [← hlen]; exact zzorder_any (hR.below (hB n))
  have HR := hide hR
  have HM := hide hM
  have HE := hide he
  clear hR hM he hlen hsum hS hB
  go_enter Tryf.func17, Tryf.ntmps17
  go_upto_region 2 with fail
  go_quiet (first
    | (go_at_call 26; refine Calls.quiet_of_same (unhide K26 _))
    | (go_at_call 27; refine Calls.quiet_of_same (unhide K27 _))
    | (go_at_call 28; refine Calls.quiet_of_same (unhide K28 _)))
  have HG0 : Hid (Gr w (w.drewN nq)) := (Gr.refl w).drewN nq
  generalize w.drewN nq = w0 at *
  go_wp2_with fail
  go_loopg [6] xs.length (fun gg kv w' => ∃ k : Nat, gg = xs.length - k ∧ k ≤ xs.length ∧ kv = .int .i64 (k : Int) ∧ Hid (Gr w w'))
  case atStart => exact ⟨0, by omega, Nat.zero_le _, rfl, HG0⟩
  case round =>
    clear HG0 K26 K27 K28 c4 c3
    obtain ⟨k, hgk, hk, rfl, HGW⟩ := hrel
    by_cases ck : k < xs.length
    · have rM := (unhide HM).below (unhide HGW).below
      have rR := (unhide HR).below (unhide HGW).below
      obtain ⟨g, cap, e1, hgl, -, hrow⟩ := rM.row (by intro e; rw [e] at ck; simp at ck)
      injection e1 with e1 _ e2
      subst e1
      subst e2
      have hx := hrow k ck
      unfold ptrM at hx
      obtain ⟨cs, hcs, hmc⟩ := (rM.each _ (List.getElem_mem ck)).2
      obtain ⟨A, hA⟩ := lookV_some (ms := ms) (p := (xs[k]).2.port) (s := (xs[k]).2.seq) ⟨(xs[k]).2, by rw [unhide HE]; exact List.mem_map.2 ⟨_, List.getElem_mem ck, rfl⟩, rfl, rfl⟩
      have K14 : Hid (∀ n os, Calls Tryf.prog 14 #[.pointer (some ⟨R, 0, none⟩), .int .u16 (xs[k]).2.port, .int .u16 (xs[k]).2.seq] (grow (wr.drewN n) os) fun e w' => e = .returned (.pointer (some ⟨A, 0, none⟩)) ∧ ∃ q os', w' = grow ((grow (wr.drewN n) os).drewN q) os') := fun n os => by
        have q := zzpending_any (rR.below (Gr.below ⟨n, os, rfl⟩)) (xs[k]).2.port (xs[k]).2.seq
        rw [hA] at q
        exact q
      have y1 : ∀ n os, (grow (wr.drewN n) os).cell? ⟨M, 3, none⟩ = some (.slice (some ⟨g, 0, none⟩) xs.length c) := fun n os => cell_grown (a := ⟨M, 3, none⟩) (lt_of_heap rM.root) (cell_of rM.root 3) n os
      have y2 : ∀ n os, (grow (wr.drewN n) os).cell? ⟨g, k, none⟩ = some (.pointer (some ⟨(xs[k]).1, 0, none⟩)) := fun n os => cell_grown (a := ⟨g, k, none⟩) hgl hx n os
      have y3 : ∀ n os, (grow (wr.drewN n) os).cell? ⟨(xs[k]).1, 0, none⟩ = some (.int .u16 (xs[k]).2.port) := fun n os => cell_grown (a := ⟨(xs[k]).1, 0, none⟩) (lt_of_heap hcs) ((cell_of hcs 0).trans hmc.port) n os
      have y4 : ∀ n os, (grow (wr.drewN n) os).cell? ⟨(xs[k]).1, 1, none⟩ = some (.int .u16 (xs[k]).2.seq) := fun n os => cell_grown (a := ⟨(xs[k]).1, 1, none⟩) (lt_of_heap hcs) ((cell_of hcs 1).trans hmc.seq) n os
      have z1 : (0 : Int) ≤ (k : Int) := by omega
      have z2 : (k : Int) < (xs.length : Int) := by omega
      have z3 : IntKind.i64.wrap ((k : Int) + 1) = (k : Int) + 1 := by rw [IntKind.wrap_i64]; omega
      clear rM rR hrow hx hcs hmc hA hgl
      generalize (xs[k]).1 = X at *
      generalize (xs[k]).2.port = pp at *
      generalize (xs[k]).2.seq = ss at *
      go_wp2_with fail
      go_quiet_grown (first | (go_at_call 14; refine Calls.grown_of (unhide K14 _ _)))
      have HG2 : Hid (Gr w (grow (wr.drewN nq) osq)) := (unhide HGW).trans ⟨nq, osq, rfl⟩
      generalize grow (wr.drewN nq) osq = w2 at *
      go_wp2_with fail
      go_roundg (xs.length - (k + 1))
      case measure => omega
      case rel => exact ⟨k + 1, rfl, by omega, by simp, HG2⟩
    · obtain rfl : k = xs.length := by omega
      have z2 : ¬ ((xs.length : Int) < (xs.length : Int)) := by omega
      go_wp2_with fail
      go_ret
      exact ⟨rfl, unhide HGW⟩
end Go.Proofs.Qxb6612998aFmt
