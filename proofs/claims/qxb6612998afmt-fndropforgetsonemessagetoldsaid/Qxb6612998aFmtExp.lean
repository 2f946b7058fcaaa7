import Derived.Test.Qxb6612998aFmtRep
namespace Go.Proofs.Qxb6612998aFmt
open Go.RowKit Go.Sort

/-- No two messages bear one key. -/
def KD (ms : List Msg) : Prop := ms.Pairwise (fun a b => ¬ (a.port = b.port ∧ a.seq = b.seq))
theorem look_ent : ∀ (ms : List Msg) (j i : Nat) (h : j < ms.length), KD ms → look (ms[j]).port (ms[j]).seq (ms.map Msg.ent) i = some (i + j, .pointer (some ⟨(ms[j]).pA, 0, none⟩))
  | m :: r, 0, i, _, _ => by simp [look, Msg.ent]
  | m :: r, j + 1, i, h, hk => by
    have hk' := List.pairwise_cons.1 hk
    have hj : j < r.length := by simpa using h
    have ih := look_ent r j (i + 1) hj hk'.2
    have hne : ¬ ((r[j]).port = m.port ∧ (r[j]).seq = m.seq) := fun e => hk'.1 (r[j]) (List.getElem_mem _) ⟨e.1.symm, e.2.symm⟩
    simp only [List.getElem_cons_succ, List.map_cons, look, Msg.ent] at *
    rw [if_neg hne, ih]
    congr 2; omega
theorem KD.erase {ms : List Msg} (h : KD ms) (j : Nat) : KD (ms.eraseIdx j) := List.Pairwise.sublist (List.eraseIdx_sublist _ _) h
theorem costS_pos : ∀ got : List (Int × List Int), 256 ≤ costS got
  | [] => by simp [costS]
  | x :: r => by have := costS_pos r; simp only [costS]; omega
theorem sumC_ge : ∀ (ms : List Msg), 0 ≤ sumC ms ∧ ∀ m ∈ ms, m.cost ≤ sumC ms
  | [] => ⟨by simp [sumC], fun m hm => by simp at hm⟩
  | m :: r => by
    have ih := sumC_ge r
    have hc : 256 ≤ m.cost := costS_pos m.got
    refine ⟨by simp only [sumC]; omega, fun x hx => ?_⟩
    simp only [sumC]
    rcases List.mem_cons.1 hx with rfl | hx
    · omega
    · have := ih.2 x hx; omega

theorem dropRep {w : World} {K0 R : Nat} {mx lt lim : Int} {ms : List Msg} (h : RepR w K0 R mx lt lim ms) (hk : KD ms) (hs : sumC ms ≤ 1099511627776) (hl : ms.length ≤ 1099511627776) (j : Nat) (hj : j < ms.length) :
    Calls Tryf.prog 25 #[.pointer (some ⟨R, 0, none⟩), .pointer (some ⟨(ms[j]).pA, 0, none⟩)] w fun e w' => e = .returned (.tuple #[]) ∧ RepR w' K0 R mx lt lim (ms.eraseIdx j) ∧ Kp w w' ∧ Below K0 w w' := by
  obtain ⟨hK, ⟨rfl, _⟩ | ⟨r, clock, ho, hr, hm, hKr, hKe, hp⟩⟩ := h
  · simp at hj
  · have hje : j < (ms.map Msg.eA).length := by simpa using hj
    have hlook := look_ent ms j 0 hj hk
    rw [Nat.zero_add] at hlook
    have hc := (sumC_ge ms).2 (ms[j]) (List.getElem_mem _)
    have hc0 : 256 ≤ (ms[j]).cost := costS_pos _
    have hpj := (hp (ms[j]) (List.getElem_mem _)).1
    have eE : (ms.map Msg.eA)[j] = (ms[j]).eA := by simp
    unfold Msg.pc at hpj
    rw [← eE] at hpj
    refine Calls.mono (drop_any j hje hr ho hm hlook hpj ⟨by omega, by omega⟩ ⟨by show _ ≤ sumC ms - (ms[j]).cost; omega, by show sumC ms - (ms[j]).cost ≤ _; omega⟩) ?_
    rintro e w' ⟨rfl, rfl⟩
    exact ⟨rfl, rep_drop hK ho hr hm hKr hKe hp j hj hje⟩
end Go.Proofs.Qxb6612998aFmt
