import Derived.Test.Qxb6612998aFmtRun
namespace Go.Proofs.Qxb6612998aFmt
open Go.RowKit Go.Sort Go.Extern.Stop Go.Stop Go.Extern

def bsum : List Stp → Int
  | [] => 0
  | s :: r => 64 + s.data.length + bsum r
theorem bsum_app : ∀ a b : List Stp, bsum (a ++ b) = bsum a + bsum b
  | [], b => by simp [bsum]
  | s :: r, b => by simp only [List.cons_append, bsum, bsum_app r b]; omega
/-- Reading one step of the script. -/
theorem Scr.row {w : World} {K0 : Nat} {oa : Option Addr} {n c : Nat} {ss : List Stp} (h : Scr w K0 (.slice oa n c) ss) : n = ss.length ∧ (∀ i (hi : i < ss.length), ∃ b off da dc, oa = some ⟨b, off, none⟩ ∧ w.cell? ⟨b, off + i * 7 + 3, none⟩ = some (.int .i64 (ss[i]).part) ∧ w.cell? ⟨b, off + i * 7 + 4, none⟩ = some (.int .i64 (ss[i]).parts) ∧ w.cell? ⟨b, off + i * 7 + 5, none⟩ = some (.slice da (ss[i]).data.length dc) ∧ (ss[i]).data.length ≤ dc) := by
  obtain ⟨oa', c', e, h⟩ := h
  injection e with e1 e2 e3
  subst e1
  refine ⟨e2, fun i hi => ?_⟩
  obtain ⟨b, off, e4, -, -, h3⟩ := h (by intro e; rw [e] at hi; simp at hi)
  obtain ⟨da, dc, ⟨oa2, c2, e5, e6, -⟩, q⟩ := h3 i hi
  injection e5 with e7 e8 e9
  exact ⟨b, off, da, dc, e4, q 3 _ rfl, q 4 _ rfl, q 5 _ rfl, by omega⟩

set_option maxHeartbeats 2000000 in
theorem stepsBytes_any {w : World} {K0 : Nat} {oa : Option Addr} {n c : Nat} {ss : List Stp} (h : Scr w K0 (.slice oa n c) ss) (sum : Int) (h0 : 0 ≤ sum ∧ sum ≤ 1048576) (hl : n ≤ 9223372036854775807) (hd : ∀ s ∈ ss, s.data.length ≤ 9223372036854775807) :
    Calls Tryf.prog 6 #[.slice oa n c, .int .i64 sum] w fun e w' => ∃ r, e = .returned (.int .i64 r) ∧ w' = w ∧ (r ≤ 1048576 → (∀ s ∈ ss, s.data.length ≤ 1048576) ∧ r = sum + bsum ss) := by
  obtain ⟨rfl, hrow⟩ := h.row
  have HR := hide hrow
  have HD := hide hd
  clear h hrow hd
  go_enter Tryf.func6, Tryf.ntmps6
  go_wp2_with fail
  go_loopg [1, 5] ss.length (fun gg sv iv w' => ∃ i : Nat, gg = ss.length - i ∧ i ≤ ss.length ∧ iv = .int .i64 (i : Int) ∧ w' = w ∧ (∃ t : Int, sv = .int .i64 t ∧ 0 ≤ t ∧ t ≤ 1048576 ∧ Hid (t = sum + bsum (ss.take i) ∧ ∀ s ∈ ss.take i, s.data.length ≤ 1048576)))
  case atStart => exact ⟨0, by omega, Nat.zero_le _, rfl, rfl, sum, rfl, h0.1, h0.2, ⟨by simp [bsum], by simp⟩⟩
  case round =>
    obtain ⟨i, hgi, hi, rfl, rfl, t, rfl, ht0, ht1, HT⟩ := hrel
    by_cases ci : i < ss.length
    · obtain ⟨b, off, da, dc, rfl, -, -, y5, -⟩ := unhide HR i ci
      have hta : ss.take (i + 1) = ss.take i ++ [ss[i]] := by rw [List.take_add_one, List.getElem?_eq_getElem ci]; rfl
      have hdl := unhide HD _ (List.getElem_mem ci)
      obtain ⟨d, hdE⟩ : ∃ d, d = (ss[i]).data.length := ⟨_, rfl⟩
      rw [← hdE] at y5 hdl
      have HDE := hide hdE
      have HTA := hide hta
      have z1 : (0 : Int) ≤ (i : Int) := by omega
      have z2 : (i : Int) < (ss.length : Int) := by omega
      have z3 : IntKind.i64.wrap ((i : Int) + 1) = (i : Int) + 1 := by rw [IntKind.wrap_i64]; omega
      clear hdE hta
      by_cases cd : (1048576 : Int) < (d : Int)
      · go_wp2_with fail
        go_ret
        exact ⟨_, rfl, rfl, fun h => by omega⟩
      · have z4 : IntKind.i64.wrap (64 + (d : Int)) = 64 + (d : Int) := by rw [IntKind.wrap_i64]; omega
        have z5 : IntKind.i64.wrap (t + (64 + (d : Int))) = t + (64 + (d : Int)) := by rw [IntKind.wrap_i64]; omega
        by_cases cs : (1048576 : Int) < t + (64 + (d : Int))
        · go_wp2_with fail
          go_ret
          exact ⟨_, rfl, rfl, fun h => by omega⟩
        · go_wp2_with fail
          go_roundg (ss.length - (i + 1))
          case measure => omega
          case rel =>
            refine ⟨i + 1, rfl, by omega, by simp, rfl, t + (64 + (d : Int)), rfl, by omega, by omega, ?_, ?_⟩
            · rw [unhide HTA, bsum_app, (unhide HT).1]
              simp only [bsum, ← unhide HDE]; omega
            · intro s hs
              rw [unhide HTA] at hs
              rcases List.mem_append.1 hs with hs | hs
              · exact (unhide HT).2 s hs
              · simp at hs
                subst hs
                rw [← unhide HDE]; omega
    · obtain rfl : i = ss.length := by omega
      have z2 : ¬ ((ss.length : Int) < (ss.length : Int)) := by omega
      go_wp2_with fail
      go_ret
      have q := unhide HT
      rw [List.take_length] at q
      exact ⟨_, rfl, rfl, fun _ => ⟨q.2, q.1⟩⟩

def ValP (w : World) (ss : List Stp) (e : Ending) (w' : World) : Prop := ∃ r, e = .returned (.bool r) ∧ Gr w w' ∧ (r = true → ∀ s ∈ ss, 1 ≤ s.part ∧ s.part ≤ s.parts ∧ s.parts ≤ 255)
set_option maxHeartbeats 4000000 in
theorem stepsValid_any {w : World} {K0 : Nat} {oa : Option Addr} {n c : Nat} {ss : List Stp} (h : Scr w K0 (.slice oa n c) ss) (hl : n ≤ 9223372036854775807) :
    Calls Tryf.prog 7 #[.slice oa n c] w (ValP w ss) := by
  obtain ⟨rfl, hrow⟩ := h.row
  have HR := hide hrow
  clear h hrow
  go_enter Tryf.func7, Tryf.ntmps7
  go_wp2_with fail
  go_loopg [3] ss.length (fun gg iv w' => ∃ i : Nat, gg = ss.length - i ∧ i ≤ ss.length ∧ iv = .int .i64 (i : Int) ∧ Hid (∃ q, w' = w.drewN q) ∧ Hid (∀ s ∈ ss.take i, 1 ≤ s.part ∧ s.part ≤ s.parts ∧ s.parts ≤ 255))
  case atStart => exact ⟨0, by omega, Nat.zero_le _, rfl, ⟨0, rfl⟩, fun s hs => by simp at hs⟩
  case round =>
    obtain ⟨i, hgi, hi, rfl, HQ, HT⟩ := hrel
    obtain ⟨q0, hq0⟩ := unhide HQ
    by_cases ci : i < ss.length
    · obtain ⟨b, off, da, dc, rfl, y3, y4, -, -⟩ := unhide HR i ci
      have hta : ss.take (i + 1) = ss.take i ++ [ss[i]] := by rw [List.take_add_one, List.getElem?_eq_getElem ci]; rfl
      have y3' : ∀ q, (wr.drewN q).cell? ⟨b, off + i * 7 + 3, none⟩ = some (.int .i64 (ss[i]).part) := fun _ => by rw [hq0]; exact y3
      have y4' : ∀ q, (wr.drewN q).cell? ⟨b, off + i * 7 + 4, none⟩ = some (.int .i64 (ss[i]).parts) := fun _ => by rw [hq0]; exact y4
      have HTA := hide hta
      have z1 : (0 : Int) ≤ (i : Int) := by omega
      have z2 : (i : Int) < (ss.length : Int) := by omega
      have z3 : IntKind.i64.wrap ((i : Int) + 1) = (i : Int) + 1 := by rw [IntKind.wrap_i64]; omega
      obtain ⟨pt, hpt⟩ : ∃ p, p = (ss[i]).part := ⟨_, rfl⟩
      obtain ⟨ps, hps⟩ : ∃ p, p = (ss[i]).parts := ⟨_, rfl⟩
      rw [← hpt] at y3'
      rw [← hps] at y4'
      have HPT := hide (And.intro hpt hps)
      have HQ0 := hide hq0
      clear y3 y4 hta hpt hps hq0 HQ
      go_upto_region 4 with fail
      go_cut [36] from 10 to 36 (fun cv w' => cv = .bool (decide (¬ (1 ≤ pt ∧ pt ≤ ps ∧ ps ≤ 255))) ∧ Hid (∃ q, w' = wr.drewN q))
      case first =>
        by_cases c1 : pt < 1
        · have d1 : decide (pt < 1) = true := by simp [c1]
          go_quiet (fail)
          go_wp2_with fail
          go_meet
          case rel => exact ⟨by rw [decide_eq_true (by omega)], nq, rfl⟩
        · have d1 : decide (pt < 1) = false := by simp [c1]
          by_cases c2 : ps < pt
          · have d2 : decide (ps < pt) = true := by simp [c2]
            go_quiet (fail)
            go_wp2_with fail
            go_meet
            case rel => exact ⟨by rw [decide_eq_true (by omega)], nq, rfl⟩
          · have d2 : decide (ps < pt) = false := by simp [c2]
            by_cases c3 : (255 : Int) < ps
            · have d3 : decide ((255 : Int) < ps) = true := by simp [c3]
              go_quiet (fail)
              go_wp2_with fail
              go_meet
              case rel => exact ⟨by rw [decide_eq_true (by omega)], nq, rfl⟩
            · have d3 : decide ((255 : Int) < ps) = false := by simp [c3]
              go_quiet (fail)
              go_wp2_with fail
              go_meet
              case rel => exact ⟨by rw [decide_eq_false (by omega)], nq, rfl⟩
      case rest =>
        rename World => wz
        obtain ⟨rfl, HZ⟩ := hcut
        have HZ2 : Hid (∃ q, wz = w.drewN q) := by
          obtain ⟨q, e⟩ := unhide HZ
          exact ⟨q0 + q, by rw [e, unhide HQ0, World.drewN_drewN]⟩
        by_cases cb : 1 ≤ pt ∧ pt ≤ ps ∧ ps ≤ 255
        · rw [decide_eq_false (by omega)]
          have HCB := hide cb
          clear y3' y4' HZ cb
          go_wp2_with fail
          go_roundg (ss.length - (i + 1))
          case measure => omega
          case rel =>
            refine ⟨i + 1, rfl, by omega, by simp, HZ2, fun s hs => ?_⟩
            rw [unhide HTA] at hs
            rcases List.mem_append.1 hs with hs | hs
            · exact unhide HT s hs
            · simp at hs
              subst hs
              rw [← (unhide HPT).1, ← (unhide HPT).2]
              exact unhide HCB
        · rw [decide_eq_true (by omega)]
          clear y3' y4' HZ cb
          go_wp2_with fail
          go_ret
          obtain ⟨q, e⟩ := unhide HZ2
          exact ⟨_, rfl, by rw [e]; exact (Gr.refl w).drewN q, fun h => by cases h⟩
    · obtain rfl : i = ss.length := by omega
      have z2 : ¬ ((ss.length : Int) < (ss.length : Int)) := by omega
      have HQ0 := hide hq0
      clear hq0
      go_wp2_with fail
      go_ret
      have q := unhide HT
      rw [List.take_length] at q
      exact ⟨true, rfl, by rw [unhide HQ0]; exact (Gr.refl w).drewN q0, fun _ => q⟩
end Go.Proofs.Qxb6612998aFmt
