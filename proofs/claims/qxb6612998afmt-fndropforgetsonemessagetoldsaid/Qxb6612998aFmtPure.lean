namespace Go.Proofs.Qxb6612998aFmt

def getA (p : Int) (got : List (Int × List Int)) : List Int := match got.find? (fun x => x.1 == p) with
  | some x => x.2
  | none => []
/-- The parts 1 .. 255 in turn, each that has come. -/
def joinA (got : List (Int × List Int)) : List Int := (List.range 255).flatMap (fun k : Nat => getA ((k : Int) + 1) got)

theorem getA_none {p : Int} {l : List (Int × List Int)} (h : ∀ x ∈ l, x.1 ≠ p) : getA p l = [] := by
  unfold getA
  rw [List.find?_eq_none.2 (fun x hx => by simpa using h x hx)]
theorem getA_cons {p : Int} {x : Int × List Int} {l : List (Int × List Int)} (h : x.1 ≠ p) : getA p (x :: l) = getA p l := by
  unfold getA
  rw [List.find?_cons_of_neg (by simpa using h)]
theorem getA_head {x : Int × List Int} {l : List (Int × List Int)} : getA x.1 (x :: l) = x.2 := by
  unfold getA
  rw [List.find?_cons_of_pos (by simp)]
theorem flat_sorted : ∀ (n : Nat) (lo : Int) (l : List (Int × List Int)), l.Pairwise (fun a b => a.1 < b.1) → (∀ x ∈ l, lo ≤ x.1 ∧ x.1 < lo + n) → l.flatMap Prod.snd = (List.range n).flatMap (fun k : Nat => getA (lo + (k : Int)) l)
  | 0, lo, l, _, h => by
    cases l with
    | nil => rfl
    | cons x r => have := h x (by simp); omega
  | n + 1, lo, l, hs, h => by
    rw [List.range_succ_eq_map, List.flatMap_cons, List.flatMap_map]
    have e : ∀ k : Nat, lo + ((k.succ : Nat) : Int) = (lo + 1) + (k : Int) := fun k => by omega
    simp only [e]
    cases l with
    | nil => simp [getA]
    | cons x r =>
      have hx := h x (by simp)
      have hs' := List.pairwise_cons.1 hs
      by_cases c : x.1 = lo
      · have e0 : getA (lo + ((0 : Nat) : Int)) (x :: r) = x.2 := by rw [show lo + ((0 : Nat) : Int) = x.1 by omega]; exact getA_head
        rw [e0, List.flatMap_cons, flat_sorted n (lo + 1) r hs'.2 (fun y hy => by have h1 := h y (by simp [hy]); have h2 := hs'.1 y hy; omega)]
        congr 1
        congr 1
        funext k
        rw [getA_cons (by omega)]
      · have e0 : getA (lo + ((0 : Nat) : Int)) (x :: r) = [] := getA_none (fun y hy => by
          rcases List.mem_cons.1 hy with rfl | hy
          · omega
          · have := hs'.1 y hy; omega)
        rw [e0, List.nil_append, ← flat_sorted n (lo + 1) (x :: r) hs (fun y hy => by
          have h1 := h y hy
          rcases List.mem_cons.1 hy with rfl | hy
          · omega
          · have := hs'.1 y hy; omega)]
theorem getA_mem {p : Int} {d : List Int} : ∀ {l : List (Int × List Int)}, (l.map Prod.fst).Nodup → (p, d) ∈ l → getA p l = d
  | x :: r, hn, hm => by
    rw [List.map_cons, List.nodup_cons] at hn
    rcases List.mem_cons.1 hm with h | h
    · subst h; exact getA_head
    · have : x.1 ≠ p := fun e => hn.1 (by rw [e]; exact List.mem_map.2 ⟨(p, d), h, rfl⟩)
      rw [getA_cons this]; exact getA_mem hn.2 h
theorem getA_perm {p : Int} {a b : List (Int × List Int)} (hp : a.Perm b) (hn : (b.map Prod.fst).Nodup) : getA p a = getA p b := by
  have hna : (a.map Prod.fst).Nodup := (hp.map Prod.fst).nodup_iff.2 hn
  by_cases c : ∃ d, (p, d) ∈ b
  · obtain ⟨d, hd⟩ := c
    rw [getA_mem hn hd, getA_mem hna (hp.mem_iff.2 hd)]
  · have hb : ∀ x ∈ b, x.1 ≠ p := fun x hx e => c ⟨x.2, by rw [← e]; exact hx⟩
    rw [getA_none hb, getA_none (fun x hx => hb x (hp.mem_iff.1 hx))]
/-- Sorted, the parts are joined. -/
theorem join_sorted {srt got : List (Int × List Int)} (hp : srt.Perm got) (hn : (got.map Prod.fst).Nodup) (hr : ∀ x ∈ got, 1 ≤ x.1 ∧ x.1 ≤ 255) (hs : srt.Pairwise (fun a b => ¬ b.1 < a.1)) : srt.flatMap Prod.snd = joinA got := by
  have hna : (srt.map Prod.fst).Nodup := (hp.map Prod.fst).nodup_iff.2 hn
  have hlt : srt.Pairwise (fun a b => a.1 < b.1) := by
    have h2 : srt.Pairwise (fun a b => a.1 ≠ b.1) := List.pairwise_map.1 hna
    exact (hs.and h2).imp (fun h => by obtain ⟨h1, h2⟩ := h; omega)
  rw [flat_sorted 255 1 srt hlt (fun x hx => by have := hr x (hp.mem_iff.1 hx); omega)]
  unfold joinA
  congr 1
  funext k
  rw [getA_perm hp hn, Int.add_comm]
end Go.Proofs.Qxb6612998aFmt
