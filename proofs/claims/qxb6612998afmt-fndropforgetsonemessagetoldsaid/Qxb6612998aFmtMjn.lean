import Derived.Test.Qxb6612998aFmtMrm
namespace Go.Proofs.Qxb6612998aFmt
open Go.RowKit Go.Sort

/-- The parts 1 .. k in turn. -/
def preA (got : List (Int × List Int)) (k : Nat) : List Int := (List.range k).flatMap (fun j : Nat => getA ((j : Int) + 1) got)
theorem preA_succ (got : List (Int × List Int)) (k : Nat) : preA got (k + 1) = preA got k ++ getA ((k : Int) + 1) got := by
  unfold preA
  rw [List.range_succ, List.flatMap_append]; simp
theorem getA_len (p : Int) : ∀ got : List (Int × List Int), ((getA p got).length : Int) ≤ lenS got
  | [] => by simp [getA, lenS]
  | x :: r => by
    have ih := getA_len p r
    have h0 := (lenS_le r).1
    by_cases c : x.1 = p
    · subst c; rw [getA_head]; simp only [lenS]; omega
    · rw [getA_cons c]; simp only [lenS]; omega
theorem preA_len (got : List (Int × List Int)) : ∀ k : Nat, ((preA got k).length : Int) ≤ k * lenS got
  | 0 => by simp [preA]
  | k + 1 => by
    have ih := preA_len got k
    have h1 := getA_len ((k : Int) + 1) got
    rw [preA_succ, List.length_append]
    rw [Int.natCast_add, show ((k + 1 : Nat) : Int) * lenS got = (k : Int) * lenS got + lenS got by rw [Int.natCast_add, Int.add_mul]; simp]
    omega
theorem getA_come {p : Int} {got : List (Int × List Int)} (h : come p got = false) : getA p got = [] := getA_none (fun x hx => come_false h x hx)

set_option maxHeartbeats 4000000 in
set_option maxRecDepth 10000 in
theorem joined_any {w : World} {x : MM} (h : MP w x) (hlen : lenS x.2.got ≤ 16777216) :
    Calls Tryf.prog 23 #[.pointer (some ⟨x.1, 0, none⟩)] w fun e w' => ∃ v, e = .returned v ∧ BO w' v (joinA x.2.got) ∧ Below w.heap.size w w' := by
  obtain ⟨i5, hi5, hz0, hz1, hz2⟩ := info_parts info5
  obtain ⟨A, a⟩ := x
  obtain ⟨cs, hcs, hmc⟩ := h
  simp only at hcs hmc hlen ⊢
  obtain ⟨L, hL⟩ : ∃ L : Nat, lenS a.got = (L : Int) := ⟨(a.got.flatMap Prod.snd).length, lenS_eq _⟩
  have c7 : w.cell? ⟨A, 517, none⟩ = some (.int .i64 (L : Int)) := by rw [← hL]; exact (cell_of hcs 517).trans hmc.len
  have lA : A < w.heap.size := lt_of_heap hcs
  have HCS := hide hcs
  have HMC := hide hmc
  clear hcs hmc
  go_enter Tryf.func23, Tryf.ntmps23
  go_upto_region 2 with (at_make; refine wpList_make_own _ rfl _ _ 33 rfl w.heap.size 5 i5 _ 1 Tryf.underlying33 hi5 hz0 hz1 .i64 .i64 _ L rfl rfl rfl (by rw [hz2]; omega) (by unfold maxLen; omega) (Nat.le_refl _) ?_; intro w2 hown hgrow)
  have hb2 : Below w.heap.size w w2 := (Below.refl _ _).grown hgrow (Nat.le_refl _) (fun k hk => by cases hk)
  have HOWN := hide hown
  have HB2 := hide hb2
  clear hown hgrow hb2 c7
  go_wp2_with fail
  go_loopg [3, 4] 255 (fun gg ov pv w' => ∃ p : Nat, gg = 256 - p ∧ 1 ≤ p ∧ p ≤ 256 ∧ pv = .int .i64 (p : Int) ∧ Hid (Below w.heap.size w w') ∧ Hid (w'.ownsRow w.heap.size 5 1 ov (preA a.got (p - 1)).length (cellsL (preA a.got (p - 1)))))
  case atStart => exact ⟨1, rfl, Nat.le_refl _, by omega, rfl, HB2, unhide HOWN⟩
  case round =>
    clear HOWN HB2
    obtain ⟨p, hgk, hp1, hp2, rfl, HB, HO⟩ := hrel
    by_cases c : p ≤ 255
    · have hx1 := ((unhide HB).cell (p := ⟨A, 4 + p, none⟩) lA).trans ((cell_of (unhide HCS) (4 + p)).trans ((unhide HMC).come p (by omega)))
      obtain ⟨v, hv, hbv⟩ := (unhide HMC).data p (by omega)
      have hx2 := ((unhide HB).cell (p := ⟨A, 260 + p, none⟩) lA).trans ((cell_of (unhide HCS) (260 + p)).trans hv)
      obtain ⟨ov, nv, cv, rfl⟩ := hbv.shape
      have hpre := preA_succ a.got (p - 1)
      rw [show p - 1 + 1 = p by omega, show (((p - 1 : Nat) : Int) + 1) = (p : Int) by omega] at hpre
      have z1 : (0 : Int) ≤ (p : Int) := by omega
      have z2 : (p : Int) < 256 := by omega
      have z3 : (p : Int) ≤ 255 := by omega
      have z4 : IntKind.i64.wrap ((p : Int) + 1) = (p : Int) + 1 := by rw [IntKind.wrap_i64]; omega
      have HPRE := hide hpre
      cases hcm : come p a.got with
      | false =>
        rw [hcm] at hx1
        rw [getA_come hcm, List.append_nil] at hpre
        have HPRE2 := hide hpre
        clear hpre hcm
        go_wp2_with fail
        go_roundg (256 - (p + 1))
        case measure => omega
        case rel => exact ⟨p + 1, rfl, by omega, by omega, by simp, HB, by rw [Nat.add_sub_cancel, unhide HPRE2]; exact unhide HO⟩
      | true =>
        rw [hcm] at hx1
        have hboW : BS wr (.slice ov nv cv) (getA p a.got) := (hbv.keep (fun k cs e => (unhide HB).block k (lt_of_heap e))).bs
        have hn' : (preA a.got (p - 1)).length + (getA p a.got).length ≤ 1099511627776 := by
          have h1 := preA_len a.got (p - 1)
          have h2 := getA_len p a.got
          have h3 : ((p - 1 : Nat) : Int) * lenS a.got ≤ 255 * lenS a.got := Int.mul_le_mul_of_nonneg_right (by omega) (lenS_le a.got).1
          omega
        have BW := hide hboW
        have LW : Hid (w.heap.size ≤ wr.heap.size) := (unhide HB).size
        have ARM : Hid (∀ v' w', w'.ownsRow w.heap.size 5 1 v' ((preA a.got (p - 1)).length + (getA p a.got).length) (cellsL (preA a.got (p - 1)) ++ cellsL (getA p a.got)) → wr.grownBy w' u3.ownBlock → w'.ownsRow w.heap.size 5 1 v' (preA a.got p).length (cellsL (preA a.got p)) ∧ Below w.heap.size w w') := fun v' w' ho' hgr' => by
          rw [← List.length_append, ← cellsL_app, ← unhide HPRE] at ho'
          refine ⟨ho', (unhide HB).grown hgr' (unhide LW) (fun k hk => ?_)⟩
          obtain ⟨-, ⟨e, -⟩ | ⟨g0, c0, cu, e, h1, -⟩⟩ := unhide HO
          · rw [e] at hk; cases hk
          · rw [e] at hk; simp [Value.ownBlock] at hk; omega
        clear hpre hcm hbv hv hboW
        go_wp2_with (at_builtin; refine wpList_appB _ rfl _ _ rfl w.heap.size _ _ _ rfl (unhide HO) _ _ rfl (unhide BW) hn' (unhide LW) ?_; intro v' w' ho' hgr' _; have HN := hide (unhide ARM v' w' ho' hgr'); clear ho' hgr')
        go_roundg (256 - (p + 1))
        case measure => omega
        case rel => exact ⟨p + 1, rfl, by omega, by omega, by simp, (unhide HN).2, by rw [Nat.add_sub_cancel]; exact (unhide HN).1⟩
    · obtain rfl : p = 256 := by omega
      go_wp2_with fail
      go_ret
      have ho := unhide HO
      refine ⟨_, rfl, ?_, unhide HB⟩
      obtain ⟨-, ⟨h1, h2⟩ | ⟨g0, c0, cu, h1, h2, h3, h4, h5, h6, h7⟩⟩ := ho
      · exact Or.inl ⟨none, 0, h1, List.length_eq_zero_iff.1 h2⟩
      · refine Or.inr ⟨g0, c0, cu, h1, h4, h3, fun j hj => ?_⟩
        have e : cu[j]? = (cu.toList.take ((preA a.got (256 - 1)).length * 1))[j]? := by rw [List.getElem?_take, if_pos (by show j < (joinA a.got).length * 1; omega)]; simp
        rw [e, h7]
        exact cellsL_get (joinA a.got) j hj
end Go.Proofs.Qxb6612998aFmt
