import Derived.Test.Qxb6609544aDoorSet
namespace Go.Proofs.Qxb6609544aDoor
open Go.RowKit

/-- What NewSet leaves. -/
def SetOK (w : World) (zp : Addr) (N : Nat) (D : Nat → Int × Int) (p : Option Addr) (l : List (Int × Int)) (w' : World) : Prop := Tree w' zp w'.heap.size N p l ∧ RowKit.Below w.heap.size w w' ∧ allL l ∧ asc l.length (LD l) ∧ l.length ≤ N ∧ (∀ i, i < N → ∃ j, j < l.length ∧ LD l j = D i) ∧ (∀ j, j < l.length → ∃ i, i < N ∧ LD l j = D i)

theorem LD_range (k : Nat) (M : Nat → Int × Int) (i : Nat) (h : i < k) : LD ((List.range k).map M) i = M i := by
  rw [LD_get _ _ (by simpa using h)]; simp
theorem perm_in {N : Nat} {d d' : Array (Int × Int)} (hs : d.size = N) (h : Sort.PermIn 0 N d d') : (∀ i, i < N → ∃ j, j < N ∧ d'[j]! = d[i]!) ∧ (∀ j, j < N → ∃ i, i < N ∧ d'[j]! = d[i]!) := by
  obtain ⟨h1, -, h3⟩ := h
  have e1 : (d'.extract 0 N).toList = d'.toList := by rw [← hs, ← h1]; simp
  have e2 : (d.extract 0 N).toList = d.toList := by rw [← hs]; simp
  rw [e1, e2] at h3
  have g : ∀ (a b : Array (Int × Int)), a.size = N → b.size = N → a.toList.Perm b.toList → ∀ i, i < N → ∃ j, j < N ∧ b[j]! = a[i]! := by
    intro a b ha hb hp i hi
    have hm : a[i]! ∈ b.toList := hp.subset (by rw [getElem!_pos a i (by omega)]; exact Array.getElem_mem_toList _)
    obtain ⟨j, hj, e⟩ := List.getElem_of_mem hm
    have hj' : j < b.size := by simpa using hj
    exact ⟨j, by omega, by rw [getElem!_pos b j hj']; simpa using e⟩
  refine ⟨fun i hi => g d d' hs (by omega) h3.symm i hi, fun j hj => ?_⟩
  obtain ⟨i, hi, e⟩ := g d' d (by omega) hs h3 j hj
  exact ⟨i, hi, e.symm⟩
theorem enters32 : ∀ args w, (callFunc 32 args).run Tryd.prog w = .ok (.enter 32 args) w := enters_of Tryd.func32 (by kernel_rfl) rfl

/-- The sort at N > 0. -/
theorem sortE_any (w : World) (zp : Addr) (g cap N : Nat) (D : Nat → Int × Int) (hz : Zs w zp) (hg2 : 2 ≤ g) (hg : g < w.heap.size) (hN : N ≤ 131072) (hH : Sort.HoldsK (enc6 zp) 6 w g 0 (arrD N D)) :
    Calls Tryd.prog 36 #[.slice (some ⟨g, 0, none⟩) N cap, .func (.func 32) #[] #[]] w fun e w' => e = .returned (.tuple #[]) ∧ ∃ D', RowKit.Below g w w' ∧ CI w' zp g N D' w' ∧ srt N D' ∧ (∀ i, i < N → ∃ j, j < N ∧ D' j = D i) ∧ (∀ j, j < N → ∃ i, i < N ∧ D' j = D i) := by
  have h := AnyQ.slices_SortFunc Tryd.sortE 6 Tryd.isAgg49 Tryd.sizeOf49 (enc6 zp) (fun _ => rfl) (fun x v hv => by simp [enc6] at hv; rcases hv with rfl | rfl | rfl | rfl | rfl | rfl <;> rfl) cmpE swoE 32 #[] g 0 cap (arrD N D) w enters32 (fun m os dk hs x y => entryCompare_any x y zp _ (hz.belowK hg2 (sort_below hg))) hH hg (by rw [arrD_size]; omega)
  change Calls Tryd.prog 36 _ _ _ at h
  rw [arrD_size] at h
  refine h.mono ?_
  rintro e w' ⟨rfl, d', n, os, hp, hs, rfl⟩
  have hsz : d'.size = N := by rw [hp.1, arrD_size]
  have hb : RowKit.Below g w (sortWorldK (enc6 zp) 6 w g 0 n d' os) := sort_below hg
  have hH' : Sort.HoldsK (enc6 zp) 6 (sortWorldK (enc6 zp) 6 w g 0 n d' os) g 0 d' := Sort.holdsK_grow _ _ _ _ _ _ _ (by show g < (w.heap.modify g _).size; simpa using hg) (Sort.holdsK_putRowK _ _ _ _ _ (arrD N D) d' (Sort.holdsK_ahead _ _ _ _ _ _ _ hH) (by rw [arrD_size, hsz]))
  obtain ⟨q1, q2⟩ := holds_H6 hH'
  rw [hsz] at q1 q2
  obtain ⟨p1, p2⟩ := perm_in (arrD_size N D) hp
  refine ⟨rfl, fun i => d'[i]!, hb, ⟨RowKit.Below.refl _ _, q1, q2, Nat.lt_of_lt_of_le hg hb.size⟩, fun i hi => (ltOf_f _ _).1 (hs i (i + 1) (by omega) (by omega) hi), fun i hi => ?_, fun j hj => ?_⟩
  · obtain ⟨j, hj, e⟩ := p1 i hi
    exact ⟨j, hj, e.trans (arrD_get N D i hi)⟩
  · obtain ⟨i, hi, e⟩ := p2 j hj
    exact ⟨i, hi, e.trans (arrD_get N D i hi)⟩
end Go.Proofs.Qxb6609544aDoor
