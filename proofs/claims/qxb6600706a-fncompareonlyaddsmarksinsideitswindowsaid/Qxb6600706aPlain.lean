/-
  THE PLAIN LAW OF THE MIDDLE SNAKE (Myers 1986, the linear-space variant, its frontiers clipped to the grid): no Go in sight.
  'M i j': line i of the first text is line j of the second.
-/
namespace Go.Proofs.Qxb6600706a

/-! ### Chains of matches -/
/-- t matches, each strictly behind the one before, from (x, y) to (x', y'). -/
def Chain (M : Nat → Nat → Bool) : Nat → Nat → Nat → Nat → Nat → Prop
  | 0, x, y, x', y' => x ≤ x' ∧ y ≤ y'
  | t + 1, x, y, x', y' => ∃ i j, x ≤ i ∧ y ≤ j ∧ M i j = true ∧ Chain M t (i + 1) (j + 1) x' y'

section
variable {M : Nat → Nat → Bool}

theorem Chain.le : ∀ {t x y x' y' : Nat}, Chain M t x y x' y' → x + t ≤ x' ∧ y + t ≤ y'
  | 0, _, _, _, _, h => by simpa [Chain] using h
  | t + 1, x, y, x', y', h => by
    obtain ⟨i, j, hi, hj, _, hc⟩ := h
    have := hc.le
    omega

theorem Chain.left {t x y x' y' x0 y0 : Nat} (h : Chain M t x y x' y') (hx : x0 ≤ x) (hy : y0 ≤ y) : Chain M t x0 y0 x' y' := by
  cases t with
  | zero => simp only [Chain] at h ⊢; omega
  | succ t =>
    obtain ⟨i, j, hi, hj, hm, hc⟩ := h
    exact ⟨i, j, by omega, by omega, hm, hc⟩

theorem Chain.right : ∀ {t x y x' y' x1 y1 : Nat}, Chain M t x y x' y' → x' ≤ x1 → y' ≤ y1 → Chain M t x y x1 y1
  | 0, _, _, _, _, _, _, h, hx, hy => by simp only [Chain] at h ⊢; omega
  | t + 1, x, y, x', y', x1, y1, h, hx, hy => by
    obtain ⟨i, j, hi, hj, hm, hc⟩ := h
    exact ⟨i, j, hi, hj, hm, hc.right hx hy⟩

theorem Chain.append : ∀ {t s x y x' y' x1 y1 : Nat}, Chain M t x y x' y' → Chain M s x' y' x1 y1 → Chain M (t + s) x y x1 y1
  | 0, s, x, y, x', y', x1, y1, h, k => by
    simp only [Chain] at h
    rw [Nat.zero_add]
    exact k.left h.1 h.2
  | t + 1, s, x, y, x', y', x1, y1, h, k => by
    obtain ⟨i, j, hi, hj, hm, hc⟩ := h
    rw [show t + 1 + s = (t + s) + 1 by omega]
    exact ⟨i, j, hi, hj, hm, hc.append k⟩

theorem Chain.snoc {t x y i j : Nat} (h : Chain M t x y i j) (hm : M i j = true) : Chain M (t + 1) x y (i + 1) (j + 1) :=
  h.append ⟨i, j, Nat.le_refl _, Nat.le_refl _, hm, Nat.le_refl _, Nat.le_refl _⟩

theorem Chain.last : ∀ {t x y x' y' : Nat}, Chain M (t + 1) x y x' y' → ∃ i j, i < x' ∧ j < y' ∧ M i j = true ∧ Chain M t x y i j
  | 0, x, y, x', y', h => by
    obtain ⟨i, j, hi, hj, hm, hc⟩ := h
    simp only [Chain] at hc
    exact ⟨i, j, by omega, by omega, hm, hi, hj⟩
  | t + 1, x, y, x', y', h => by
    obtain ⟨i, j, hi, hj, hm, hc⟩ := h
    obtain ⟨i', j', h1, h2, h3, h4⟩ := hc.last
    exact ⟨i', j', h1, h2, h3, i, j, hi, hj, hm, h4⟩

/-- The last step of the way to (x', y'): a line deleted, a line inserted, or a match. -/
theorem Chain.lastStep {t x' y' : Nat} (h : Chain M t 0 0 x' y') (hne : 0 < x' + y') :
    (∃ p, x' = p + 1 ∧ Chain M t 0 0 p y') ∨ (∃ q, y' = q + 1 ∧ Chain M t 0 0 x' q) ∨ (∃ p q s, x' = p + 1 ∧ y' = q + 1 ∧ t = s + 1 ∧ M p q = true ∧ Chain M s 0 0 p q) := by
  cases t with
  | zero =>
    by_cases hx : x' = 0
    · exact .inr (.inl ⟨y' - 1, by omega, by simp [Chain]⟩)
    · exact .inl ⟨x' - 1, by omega, by simp [Chain]⟩
  | succ t =>
    obtain ⟨i, j, hi, hj, hm, hc⟩ := h.last
    by_cases h1 : i + 1 = x'
    · by_cases h2 : j + 1 = y'
      · exact .inr (.inr ⟨i, j, t, by omega, by omega, rfl, hm, hc⟩)
      · exact .inr (.inl ⟨y' - 1, by omega, (hc.snoc hm).right (by omega) (by omega)⟩)
    · exact .inl ⟨x' - 1, by omega, (hc.snoc hm).right (by omega) (by omega)⟩

/-- The first step of the way from (x, y). -/
theorem Chain.firstStep {t x y n m : Nat} (h : Chain M t x y n m) (hne : x + y < n + m) :
    Chain M t (x + 1) y n m ∨ Chain M t x (y + 1) n m ∨ (∃ s, t = s + 1 ∧ M x y = true ∧ Chain M s (x + 1) (y + 1) n m) := by
  cases t with
  | zero =>
    simp only [Chain] at h ⊢
    by_cases hx : x < n
    · exact .inl (by omega)
    · exact .inr (.inl (by omega))
  | succ t =>
    obtain ⟨i, j, hi, hj, hm, hc⟩ := h
    by_cases h1 : x < i
    · exact .inl ⟨i, j, by omega, hj, hm, hc⟩
    · by_cases h2 : y < j
      · exact .inr (.inl ⟨i, j, hi, by omega, hm, hc⟩)
      · obtain rfl : i = x := by omega
        obtain rfl : j = y := by omega
        exact .inr (.inr ⟨t, rfl, hm, hc⟩)

/-- Further along a diagonal the end is no farther. -/
theorem Chain.along {n m : Nat} : ∀ (i : Nat) {t x y : Nat}, Chain M t x y n m → x + i ≤ n → y + i ≤ m → ∃ t', Chain M t' (x + i) (y + i) n m ∧ t ≤ t' + i
  | 0, t, x, y, h, _, _ => ⟨t, h, by omega⟩
  | i + 1, t, x, y, h, hx, hy => by
    obtain ⟨s, hs, hle⟩ : ∃ s, Chain M s (x + 1) (y + 1) n m ∧ t ≤ s + 1 := by
      cases t with
      | zero => exact ⟨0, by simp only [Chain]; omega, by omega⟩
      | succ t =>
        obtain ⟨i', j', hi, hj, hm, hc⟩ := h
        exact ⟨t, hc.left (by omega) (by omega), by omega⟩
    obtain ⟨t', ht, hl⟩ := Chain.along i hs (by omega) (by omega)
    exact ⟨t', by rwa [show x + (i + 1) = x + 1 + i by omega, show y + (i + 1) = y + 1 + i by omega], by omega⟩

theorem Chain.congr {M' : Nat → Nat → Bool} : ∀ {t x y x' y' : Nat}, Chain M t x y x' y' → (∀ i j, i < x' → j < y' → M i j = M' i j) → Chain M' t x y x' y'
  | 0, _, _, _, _, h, _ => h
  | t + 1, x, y, x', y', h, hc => by
    obtain ⟨i, j, hi, hj, hm, hk⟩ := h
    have := hk.le
    exact ⟨i, j, hi, hj, by rw [← hc i j (by omega) (by omega)]; exact hm, hk.congr hc⟩
end

/-- The two texts read from their ends. -/
def rev (M : Nat → Nat → Bool) (n m : Nat) : Nat → Nat → Bool := fun i j => M (n - 1 - i) (m - 1 - j)

theorem Chain.rev {M : Nat → Nat → Bool} {n m : Nat} : ∀ {t x y x' y' : Nat}, Chain M t x y x' y' → x' ≤ n → y' ≤ m → Chain (rev M n m) t (n - x') (m - y') (n - x) (m - y)
  | 0, _, _, _, _, h, hx, hy => by simp only [Chain] at h ⊢; omega
  | t + 1, x, y, x', y', h, hx, hy => by
    obtain ⟨i, j, hi, hj, hm, hc⟩ := h
    have hl := hc.le
    have ih := hc.rev hx hy
    have hm' : Qxb6600706a.rev M n m (n - (i + 1)) (m - (j + 1)) = true := by
      unfold Qxb6600706a.rev
      rw [show n - 1 - (n - (i + 1)) = i by omega, show m - 1 - (m - (j + 1)) = j by omega]
      exact hm
    exact (ih.snoc hm').right (by omega) (by omega)

theorem Chain.unrev {M : Nat → Nat → Bool} {n m t x y : Nat} (h : Chain (Qxb6600706a.rev M n m) t 0 0 x y) (hx : x ≤ n) (hy : y ≤ m) : Chain M t (n - x) (m - y) n m := by
  have h1 := h.rev hx hy
  rw [Nat.sub_zero, Nat.sub_zero] at h1
  refine h1.congr fun i j hi hj => ?_
  unfold Qxb6600706a.rev
  rw [show n - 1 - (n - 1 - i) = i by omega, show m - 1 - (m - 1 - j) = j by omega]

/-! ### The longest chain -/
/-- L matches, and no more, lie between the two corners. -/
def Longest (M : Nat → Nat → Bool) (n m L : Nat) : Prop := Chain M L 0 0 n m ∧ ∀ t, Chain M t 0 0 n m → t ≤ L

theorem bounded_max (P : Nat → Prop) (h0 : P 0) : ∀ N, (∀ t, P t → t ≤ N) → ∃ L, P L ∧ ∀ t, P t → t ≤ L
  | 0, h => ⟨0, h0, h⟩
  | N + 1, h => by
    by_cases hp : P (N + 1)
    · exact ⟨N + 1, hp, h⟩
    · exact bounded_max P h0 N fun t ht => by
        have := h t ht
        have : t ≠ N + 1 := fun e => hp (e ▸ ht)
        omega

theorem longest_exists (M : Nat → Nat → Bool) (n m : Nat) : ∃ L, Longest M n m L :=
  bounded_max (fun t => Chain M t 0 0 n m) (by simp [Chain]) n fun t ht => by have := ht.le; omega

theorem Longest.rev {M : Nat → Nat → Bool} {n m L : Nat} (h : Longest M n m L) : Longest (rev M n m) n m L := by
  refine ⟨?_, fun t ht => h.2 t ?_⟩
  · have := h.1.rev (Nat.le_refl n) (Nat.le_refl m)
    simpa using this
  · have := ht.unrev (Nat.le_refl n) (Nat.le_refl m)
    simpa using this

/-- Where the first lines differ and the last lines differ a shortest script takes two edits at least. -/
theorem Longest.two {M : Nat → Nat → Bool} {n m L : Nat} (h : Longest M n m L) (hn : 1 ≤ n) (hm : 1 ≤ m) (h0 : M 0 0 = false) (h1 : M (n - 1) (m - 1) = false) : 2 * L + 2 ≤ n + m := by
  cases L with
  | zero => omega
  | succ L =>
    obtain ⟨i', j', hi, hj, hM, hc⟩ := h.1.last
    have hne : ¬ (i' = n - 1 ∧ j' = m - 1) := fun e => by rw [e.1, e.2, h1] at hM; cases hM
    have hc2 := hc.snoc hM
    obtain ⟨i, j, _, _, hM2, hk⟩ := hc2
    have hne2 : ¬ (i = 0 ∧ j = 0) := fun e => by rw [e.1, e.2, h0] at hM2; cases hM2
    have := hk.le
    omega

/-! ### Frontiers -/
section
variable (M : Nat → Nat → Bool) (n m L : Nat)

/-- v is the x of a grid point on diagonal k that d edits reach, and at least d steps from the origin. -/
def Pt (d k v : Int) : Prop := ∃ x y t : Nat, v = x ∧ (x : Int) - y = k ∧ x ≤ n ∧ y ≤ m ∧ Chain M t 0 0 x y ∧ (x : Int) + y ≤ d + 2 * t ∧ d ≤ (x : Int) + y

/-- x is that of a point on diagonal k to which a shortest script comes with d edits. -/
def On (d k x : Int) : Prop := ∃ a b t1 t2 : Nat, x = a ∧ (a : Int) - b = k ∧ Chain M t1 0 0 a b ∧ Chain M t2 a b n m ∧ t1 + t2 = L ∧ (a : Int) + b = d + 2 * t1

/-- What the frontier of d edits holds on diagonal k. -/
def Good (d k v : Int) : Prop := (v = -1 ∨ Pt M n m d k v) ∧ ∀ x, On M n m L d k x → x ≤ v

/-- The diagonals on which d edits end. -/
def Dg (d k : Int) : Prop := 0 ≤ d ∧ -d ≤ k ∧ k ≤ d ∧ -(m : Int) ≤ k ∧ k ≤ n ∧ (d - k) % 2 = 0

/-- The run of matches on diagonal k from s on ends at e. -/
def Run (k s e : Int) : Prop := s ≤ e ∧ e ≤ n ∧ e - k ≤ m ∧ (∀ i : Int, s ≤ i → i < e → M i.toNat (i - k).toNat = true) ∧ ¬ (e < n ∧ e - k < m ∧ M e.toNat (e - k).toNat = true)
end

section
variable {M : Nat → Nat → Bool} {n m L : Nat}

theorem On.dg {d k x : Int} (h : On M n m L d k x) : Dg n m d k := by
  obtain ⟨a, b, t1, t2, rfl, rfl, c1, c2, _, hl⟩ := h
  have := c1.le
  have := c2.le
  refine ⟨by omega, by omega, by omega, by omega, by omega, by omega⟩

theorem Pt.run {d k s e : Int} (h : Pt M n m d k s) (hr : Run M n m k s e) : Pt M n m d k e := by
  obtain ⟨x, y, t, rfl, rfl, hx, hy, hc, hd1, hd2⟩ := h
  obtain ⟨r1, r2, r3, r4, _⟩ := hr
  obtain ⟨i, rfl⟩ : ∃ i : Nat, e = (x : Int) + i := ⟨(e - x).toNat, by omega⟩
  have key : ∀ j : Nat, j ≤ i → Chain M (t + j) 0 0 (x + j) (y + j) := by
    intro j
    induction j with
    | zero => intro _; exact hc
    | succ j ih =>
      intro hj
      have hm := r4 ((x : Int) + j) (by omega) (by omega)
      rw [show ((x : Int) + j).toNat = x + j by omega, show ((x : Int) + j - ((x : Int) - y)).toNat = y + j by omega] at hm
      exact (ih (by omega)).snoc hm
  exact ⟨x + i, y + i, t + i, by omega, by omega, by omega, by omega, key i (Nat.le_refl i), by omega, by omega⟩

/-- The step of one frontier entry. V: the frontier of d - 1 edits; s: what 'furthest' answers. -/
theorem front {d k s v : Int} {V : Int → Int} (hL : Longest M n m L) (hd : 1 ≤ d)
    (g1 : Dg n m (d - 1) (k + 1) → Good M n m L (d - 1) (k + 1) (V (k + 1))) (g2 : Dg n m (d - 1) (k - 1) → Good M n m L (d - 1) (k - 1) (V (k - 1)))
    (hdown : Dg n m (d - 1) (k + 1) → 0 ≤ V (k + 1) → V (k + 1) - (k + 1) < m → V (k + 1) ≤ s)
    (hright : Dg n m (d - 1) (k - 1) → 0 ≤ V (k - 1) → V (k - 1) < n → V (k - 1) + 1 ≤ s)
    (hv : (s < 0 ∧ v = -1) ∨ (0 ≤ s ∧ Run M n m k s v)) : ∀ x, On M n m L d k x → x ≤ v := by
  have key : ∀ (N : Nat) (x : Int), x.toNat ≤ N → On M n m L d k x → x ≤ v := by
    intro N
    induction N with
    | zero =>
      intro x hN hon
      obtain ⟨a, b, t1, t2, rfl, hkk, c1, c2, ht, hl⟩ := hon
      have ha : a = 0 := by omega
      subst ha
      have c1l := c1.le
      have c2l := c2.le
      -- only a line inserted leads here
      obtain ⟨q, rfl⟩ : ∃ q, b = q + 1 := ⟨b - 1, by omega⟩
      have c3 : Chain M t1 0 0 0 q := by
        obtain rfl : t1 = 0 := by omega
        simp [Chain]
      have on1 : On M n m L (d - 1) (k + 1) ((0 : Nat) : Int) := ⟨0, q, t1, t2, rfl, by omega, c3, c2.left (Nat.le_refl _) (by omega), ht, by omega⟩
      have dg1 := on1.dg
      have gd := g1 dg1
      have ge := gd.2 _ on1
      have hin : V (k + 1) - (k + 1) < m := by
        rcases gd.1 with e | ⟨x', y', t', e1, e2, _, _, e3, e4, _⟩
        · omega
        · by_cases hlt : V (k + 1) - (k + 1) < m
          · exact hlt
          · have := e3.le
            have hLt := hL.2 t' (e3.right (by omega) (by omega))
            omega
      have := hdown dg1 (by omega) hin
      rcases hv with ⟨h1, h2⟩ | ⟨h1, h2, _⟩
      · omega
      · omega
    | succ N ih =>
      intro x hN hon
      obtain ⟨a, b, t1, t2, rfl, hkk, c1, c2, ht, hl⟩ := hon
      have c1l := c1.le
      have c2l := c2.le
      rcases c1.lastStep (by omega) with ⟨p, rfl, c3⟩ | ⟨q, rfl, c3⟩ | ⟨p, q, s', rfl, rfl, rfl, hm, c3⟩
      · -- a line deleted
        have on1 : On M n m L (d - 1) (k - 1) ((p : Nat) : Int) := ⟨p, b, t1, t2, rfl, by omega, c3, c2.left (by omega) (Nat.le_refl _), ht, by omega⟩
        have dg1 := on1.dg
        have gd := g2 dg1
        have ge := gd.2 _ on1
        have hin : V (k - 1) < n := by
          rcases gd.1 with e | ⟨x', y', t', e1, e2, _, _, e3, e4, _⟩
          · omega
          · by_cases hlt : V (k - 1) < n
            · exact hlt
            · have := e3.le
              have hLt := hL.2 t' (e3.right (by omega) (by omega))
              omega
        have := hright dg1 (by omega) hin
        rcases hv with ⟨h1, h2⟩ | ⟨h1, h2, _⟩
        · omega
        · omega
      · -- a line inserted
        have on1 : On M n m L (d - 1) (k + 1) ((a : Nat) : Int) := ⟨a, q, t1, t2, rfl, by omega, c3, c2.left (Nat.le_refl _) (by omega), ht, by omega⟩
        have dg1 := on1.dg
        have gd := g1 dg1
        have ge := gd.2 _ on1
        have hin : V (k + 1) - (k + 1) < m := by
          rcases gd.1 with e | ⟨x', y', t', e1, e2, _, _, e3, e4, _⟩
          · omega
          · by_cases hlt : V (k + 1) - (k + 1) < m
            · exact hlt
            · have := e3.le
              have hLt := hL.2 t' (e3.right (by omega) (by omega))
              omega
        have := hdown dg1 (by omega) hin
        rcases hv with ⟨h1, h2⟩ | ⟨h1, h2, _⟩
        · omega
        · omega
      · -- a match
        have on1 : On M n m L d k ((p : Nat) : Int) := ⟨p, q, s', t2 + 1, rfl, by omega, c3, ⟨p, q, Nat.le_refl _, Nat.le_refl _, hm, c2⟩, by omega, by omega⟩
        have hp := ih p (by omega) on1
        rcases hv with ⟨h1, h2⟩ | ⟨h1, h2, r2, r3, _, r5⟩
        · omega
        · by_cases e : v = p
          · exfalso
            apply r5
            refine ⟨by omega, by omega, ?_⟩
            rw [e, show ((p : Int)).toNat = p by omega, show ((p : Int) - k).toNat = q by omega]
            exact hm
          · omega
  exact fun x h => key x.toNat x (Nat.le_refl _) h

/-- The frontier of no edit. -/
theorem front0 {v : Int} (hv : Run M n m 0 0 v) : Good M n m L 0 0 v := by
  refine ⟨.inr (Pt.run ⟨0, 0, 0, rfl, rfl, Nat.zero_le _, Nat.zero_le _, by simp [Chain], by omega, by omega⟩ hv), ?_⟩
  have key : ∀ (N : Nat) (x : Int), x.toNat ≤ N → On M n m L 0 0 x → x ≤ v := by
    intro N
    obtain ⟨h0, r2, r3, _, r5⟩ := hv
    induction N with
    | zero => intro x hN hon; omega
    | succ N ih =>
      intro x hN hon
      obtain ⟨a, b, t1, t2, rfl, hkk, c1, c2, ht, hl⟩ := hon
      have c1l := c1.le
      have c2l := c2.le
      by_cases h0' : a + b = 0
      · omega
      rcases c1.lastStep (by omega) with ⟨p, rfl, c3⟩ | ⟨q, rfl, c3⟩ | ⟨p, q, s', rfl, rfl, rfl, hm, c3⟩
      · have := c3.le; omega
      · have := c3.le; omega
      · have on1 : On M n m L 0 0 ((p : Nat) : Int) := ⟨p, q, s', t2 + 1, rfl, by omega, c3, ⟨p, q, Nat.le_refl _, Nat.le_refl _, hm, c2⟩, by omega, by omega⟩
        have hp := ih p (by omega) on1
        by_cases e : v = p
        · exfalso
          apply r5
          refine ⟨by omega, by omega, ?_⟩
          rw [e, show ((p : Int)).toNat = p by omega, show ((p : Int) - 0).toNat = q by omega]
          exact hm
        · omega
  exact fun x h => key x.toNat x (Nat.le_refl _) h

/-- To every number of edits up to the shortest script's a point of a shortest script. -/
theorem On.next {d : Int} : ∀ (N : Nat) {a b t1 t2 : Nat}, n + m ≤ a + b + N → Chain M t1 0 0 a b → Chain M t2 a b n m → t1 + t2 = L → (a : Int) + b = d + 2 * t1 → d + 1 ≤ (n : Int) + m - 2 * L →
    ∃ k x, On M n m L (d + 1) k x
  | 0, a, b, t1, t2, hN, c1, c2, ht, hl, hd => by
    exfalso
    have := c2.le
    omega
  | N + 1, a, b, t1, t2, hN, c1, c2, ht, hl, hd => by
    have c1l := c1.le
    have c2l := c2.le
    by_cases hlt : a + b < n + m
    · rcases c2.firstStep hlt with h | h | ⟨s, rfl, hm, h⟩
      · exact ⟨_, _, a + 1, b, t1, t2, rfl, rfl, c1.right (by omega) (by omega), h, ht, by omega⟩
      · exact ⟨_, _, a, b + 1, t1, t2, rfl, rfl, c1.right (by omega) (by omega), h, ht, by omega⟩
      · exact On.next N (by omega) (c1.snoc hm) h (by omega) (by omega) hd
    · exfalso
      omega

theorem On.at (hL : Longest M n m L) : ∀ (j : Nat), (j : Int) ≤ (n : Int) + m - 2 * L → ∃ k x, On M n m L j k x
  | 0, _ => ⟨_, _, 0, 0, 0, L, rfl, rfl, by simp [Chain], hL.1, by omega, by omega⟩
  | j + 1, h => by
    obtain ⟨k, x, a, b, t1, t2, _, _, c1, c2, ht, hl⟩ := On.at hL j (by omega)
    have := On.next (n + m) (by omega) c1 c2 ht hl (by omega)
    rw [show ((j + 1 : Nat) : Int) = (j : Int) + 1 by omega]
    exact this

/-! ### The two directions -/
/-- N is M read from the ends. -/
def Dual (n m : Nat) (M N : Nat → Nat → Bool) : Prop := ∀ t x y : Nat, x ≤ n → y ≤ m →
  (Chain M t x y n m → Chain N t 0 0 (n - x) (m - y)) ∧ (Chain M t 0 0 x y → Chain N t (n - x) (m - y) n m) ∧ (Chain N t 0 0 x y → Chain M t (n - x) (m - y) n m)

theorem dual_fwd (M : Nat → Nat → Bool) : Dual n m M (rev M n m) := by
  intro t x y hx hy
  refine ⟨fun h => ?_, fun h => ?_, fun h => h.unrev hx hy⟩
  · simpa using h.rev (Nat.le_refl n) (Nat.le_refl m)
  · simpa using h.rev hx hy

theorem dual_bwd (M : Nat → Nat → Bool) : Dual n m (rev M n m) M := by
  intro t x y hx hy
  refine ⟨fun h => ?_, fun h => h.unrev hx hy, fun h => ?_⟩
  · have h1 := h.rev (n := n) (m := m) (Nat.le_refl n) (Nat.le_refl m)
    simp only [Nat.sub_self] at h1
    refine h1.congr fun i j hi hj => ?_
    unfold Qxb6600706a.rev
    rw [show n - 1 - (n - 1 - i) = i by omega, show m - 1 - (m - 1 - j) = j by omega]
  · simpa using h.rev hx hy

theorem On.dual {N : Nat → Nat → Bool} (hD : Dual n m M N) {d d' k x : Int} (h : On M n m L d k x) (e : (n : Int) + m - 2 * L = d + d') : On N n m L d' ((n : Int) - m - k) (n - x) := by
  obtain ⟨a, b, t1, t2, rfl, rfl, c1, c2, ht, hl⟩ := h
  have := c2.le
  obtain ⟨q1, _, _⟩ := hD t2 a b (by omega) (by omega)
  obtain ⟨_, q2, _⟩ := hD t1 a b (by omega) (by omega)
  exact ⟨n - a, m - b, t2, t1, by omega, by omega, q1 c2, q2 c1, by omega, by omega⟩

/-- Two points that overlap make a script. -/
theorem meet {N : Nat → Nat → Bool} (hL : Longest M n m L) (hD : Dual n m M N) {d d' k c e w : Int} (h1 : Pt M n m d k e) (h2 : Pt N n m d' c w) (hc : c = (n : Int) - m - k) (hs : (n : Int) ≤ e + w) :
    (n : Int) + m - 2 * L ≤ d + d' := by
  obtain ⟨x, y, t, rfl, rfl, hx, hy, ct, l1, _⟩ := h1
  obtain ⟨x', y', t', rfl, hk', hx', hy', ct', l2, _⟩ := h2
  obtain ⟨_, _, q⟩ := hD t' x' y' hx' hy'
  have c2 := q ct'
  obtain ⟨t2, c3, hl⟩ := c2.along (x - (n - x')) (by omega) (by omega)
  rw [show n - x' + (x - (n - x')) = x by omega, show m - y' + (x - (n - x')) = y by omega] at c3
  have := hL.2 _ (ct.append c3)
  omega

/-- The far corner within d edits. -/
theorem Pt.corner (hL : Longest M n m L) {d k : Int} (h : Pt M n m d k n) (hk : (n : Int) - k = m) : (n : Int) + m - 2 * L ≤ d := by
  obtain ⟨x, y, t, e1, rfl, hx, hy, ct, l1, _⟩ := h
  have := hL.2 t (ct.right (by omega) (by omega))
  omega

/-- One phase: V: the frontier that is being made, d - 1 edits old and, below j, d edits old; W: the other direction's, d' edits old. -/
def Phase (M N : Nat → Nat → Bool) (n m L : Nat) (d d' j : Int) (V W : Int → Int) : Prop :=
  (∀ k, Dg n m (d - 1) k → Good M n m L (d - 1) k (V k)) ∧ (∀ k, Dg n m d k → k < j → Good M n m L d k (V k)) ∧ (∀ k, Dg n m d' k → Good N n m L d' k (W k)) ∧
    ((n : Int) + m - 2 * L = d + d' → ∀ k x, k < j → ¬ On M n m L d k x)

/-- The diagonal from which on d edits end. -/
def low (d m : Int) : Int := if d ≤ m then -d else -m + (d - m) % 2

theorem low_dg {d k : Int} (hp : (d - k) % 2 = 0) : (low d m ≤ k ∧ k ≤ min d n) ↔ Dg n m d k := by
  unfold low Dg
  split <;> omega

theorem low_le {d k : Int} (h : Dg n m d k) : low d m ≤ k := ((low_dg h.2.2.2.2.2).2 h).1

theorem low_par (d : Int) (_hd : 0 ≤ d) : (d - low d m) % 2 = 0 ∧ -(m : Int) ≤ low d m ∧ -d ≤ low d m := by
  unfold low
  split <;> omega

/-- What 'furthest' answers, d ≥ 1. -/
def fur (V : Int → Int) (d k n m : Int) : Int :=
  let x := if k + 1 ≤ min (d - 1) n ∧ 0 ≤ V (k + 1) ∧ V (k + 1) - (k + 1) < m then V (k + 1) else -1
  if low (d - 1) m ≤ k - 1 ∧ 0 ≤ V (k - 1) ∧ V (k - 1) < n then max x (V (k - 1) + 1) else x

theorem fur_ge (V : Int → Int) (d k n m : Int) : -1 ≤ fur V d k n m := by
  unfold fur
  simp only
  split <;> split <;> omega

/-- A step of a phase: the facts on what 'furthest' answers. -/
theorem fur_facts {V : Int → Int} {d k : Int} (hk : Dg n m d k) (hd : 1 ≤ d) :
    (Dg n m (d - 1) (k + 1) → 0 ≤ V (k + 1) → V (k + 1) - (k + 1) < m → V (k + 1) ≤ fur V d k n m) ∧
    (Dg n m (d - 1) (k - 1) → 0 ≤ V (k - 1) → V (k - 1) < n → V (k - 1) + 1 ≤ fur V d k n m) ∧
    (0 ≤ fur V d k n m → (Dg n m (d - 1) (k + 1) ∧ 0 ≤ V (k + 1) ∧ V (k + 1) - (k + 1) < m ∧ fur V d k n m = V (k + 1)) ∨ (Dg n m (d - 1) (k - 1) ∧ 0 ≤ V (k - 1) ∧ V (k - 1) < n ∧ fur V d k n m = V (k - 1) + 1)) := by
  obtain ⟨h0, h1, h2, h3, h4, h5⟩ := hk
  have e1 : k + 1 ≤ min (d - 1) n ↔ Dg n m (d - 1) (k + 1) := by unfold Dg; omega
  have e2 : low (d - 1) m ≤ k - 1 ↔ Dg n m (d - 1) (k - 1) := by unfold low Dg; split <;> omega
  refine ⟨fun a b c => ?_, fun a b c => ?_, fun h => ?_⟩
  · have c1 : k + 1 ≤ min (d - 1) (n : Int) ∧ 0 ≤ V (k + 1) ∧ V (k + 1) - (k + 1) < (m : Int) := ⟨e1.2 a, b, c⟩
    unfold fur
    simp only
    rw [if_pos c1]
    split <;> omega
  · have c2 : low (d - 1) (m : Int) ≤ k - 1 ∧ 0 ≤ V (k - 1) ∧ V (k - 1) < (n : Int) := ⟨e2.2 a, b, c⟩
    unfold fur
    simp only
    rw [if_pos c2]
    split <;> omega
  · unfold fur at h ⊢
    simp only at h ⊢
    by_cases c1 : k + 1 ≤ min (d - 1) (n : Int) ∧ 0 ≤ V (k + 1) ∧ V (k + 1) - (k + 1) < (m : Int)
    · rw [if_pos c1] at h ⊢
      by_cases c2 : low (d - 1) (m : Int) ≤ k - 1 ∧ 0 ≤ V (k - 1) ∧ V (k - 1) < (n : Int)
      · rw [if_pos c2] at h ⊢
        by_cases hm : V (k - 1) + 1 ≤ V (k + 1)
        · exact .inl ⟨e1.1 c1.1, c1.2.1, c1.2.2, by omega⟩
        · exact .inr ⟨e2.1 c2.1, c2.2.1, c2.2.2, by omega⟩
      · rw [if_neg c2] at h ⊢
        exact .inl ⟨e1.1 c1.1, c1.2.1, c1.2.2, rfl⟩
    · rw [if_neg c1] at h ⊢
      by_cases c2 : low (d - 1) (m : Int) ≤ k - 1 ∧ 0 ≤ V (k - 1) ∧ V (k - 1) < (n : Int)
      · rw [if_pos c2] at h ⊢
        exact .inr ⟨e2.1 c2.1, c2.2.1, c2.2.2, by omega⟩
      · rw [if_neg c2] at h ⊢
        omega

/-- What 'furthest' answers, d = 0 too. -/
def furth (V : Int → Int) (d k n m : Int) : Int := if d = 0 then 0 else fur V d k n m

/-- Where 'furthest' answers a place, it is a point of d edits. -/
theorem Phase.start {N : Nat → Nat → Bool} {d d' j : Int} {V W : Int → Int} (h : Phase M N n m L d d' j V W) (hj : Dg n m d j) (hs : 0 ≤ furth V d j n m) : Pt M n m d j (furth V d j n m) := by
  unfold furth at hs ⊢
  by_cases hd : d = 0
  · subst hd
    obtain ⟨_, a, b, _⟩ := hj
    obtain rfl : j = 0 := by omega
    rw [if_pos rfl]
    exact ⟨0, 0, 0, rfl, rfl, Nat.zero_le _, Nat.zero_le _, by simp [Chain], by omega, by omega⟩
  · rw [if_neg hd] at hs ⊢
    have h0 := hj.1
    rcases (fur_facts (V := V) hj (by omega)).2.2 hs with ⟨q1, q2, q3, q4⟩ | ⟨q1, q2, q3, q4⟩
    · rw [q4]
      rcases (h.1 _ q1).1 with e | ⟨x, y, t, e1, e2, e3, e4, e5, e6, e7⟩
      · omega
      · exact ⟨x, y + 1, t, e1, by omega, e3, by omega, e5.right (Nat.le_refl _) (by omega), by omega, by omega⟩
    · rw [q4]
      rcases (h.1 _ q1).1 with e | ⟨x, y, t, e1, e2, e3, e4, e5, e6, e7⟩
      · omega
      · exact ⟨x + 1, y, t, by omega, by omega, by omega, e4, e5.right (by omega) (Nat.le_refl _), by omega, by omega⟩

/-- What the entry holds behind the step. -/
theorem Phase.good {N : Nat → Nat → Bool} {d d' j v : Int} {V W : Int → Int} (hL : Longest M n m L) (h : Phase M N n m L d d' j V W) (hj : Dg n m d j)
    (hv : (furth V d j n m < 0 ∧ v = -1) ∨ (0 ≤ furth V d j n m ∧ Run M n m j (furth V d j n m) v)) : Good M n m L d j v := by
  by_cases hd : d = 0
  · subst hd
    obtain ⟨_, a, b, _⟩ := hj
    obtain rfl : j = 0 := by omega
    have e : furth V 0 0 n m = 0 := if_pos rfl
    rw [e] at hv
    rcases hv with ⟨h1, _⟩ | ⟨_, h2⟩
    · omega
    · exact front0 h2
  · have e : furth V d j n m = fur V d j n m := if_neg hd
    have hd1 : 1 ≤ d := by have := hj.1; omega
    have ff := fur_facts (V := V) hj hd1
    refine ⟨?_, front hL hd1 (fun q => h.1 _ q) (fun q => h.1 _ q) ff.1 ff.2.1 (by rw [← e]; exact hv)⟩
    rcases hv with ⟨_, h2⟩ | ⟨h1, h2⟩
    · exact .inl h2
    · exact .inr ((h.start hj h1).run h2)

/-- Is the other direction's frontier met on diagonal j? -/
def Hit (n m : Nat) (d' j v : Int) (W : Int → Int) : Prop := Dg n m d' ((n : Int) - m - j) ∧ 0 ≤ W ((n : Int) - m - j) ∧ (n : Int) ≤ v + W ((n : Int) - m - j)

/-- One entry is laid. -/
def upd (V : Int → Int) (j v : Int) : Int → Int := fun k => if k = j then v else V k

theorem Phase.next {N : Nat → Nat → Bool} {d d' j v : Int} {V W : Int → Int} (hL : Longest M n m L) (hD : Dual n m M N) (h : Phase M N n m L d d' j V W) (hj : Dg n m d j)
    (hv : (furth V d j n m < 0 ∧ v = -1) ∨ (0 ≤ furth V d j n m ∧ Run M n m j (furth V d j n m) v ∧ ((n : Int) + m - 2 * L = d + d' → ¬ Hit n m d' j v W))) : Phase M N n m L d d' (j + 2) (upd V j v) W := by
  have hg : Good M n m L d j v := h.good hL hj (by rcases hv with a | ⟨a, b, _⟩; exact .inl a; exact .inr ⟨a, b⟩)
  obtain ⟨p1, p2, p3, p4⟩ := h
  have par := hj.2.2.2.2.2
  refine ⟨fun k hk => ?_, fun k hk hlt => ?_, p3, fun e k x hlt hon => ?_⟩
  · have pk := hk.2.2.2.2.2
    unfold upd
    rw [if_neg (by omega)]
    exact p1 k hk
  · have pk := hk.2.2.2.2.2
    unfold upd
    by_cases hkj : k = j
    · subst hkj
      rw [if_pos rfl]
      exact hg
    · rw [if_neg hkj]
      exact p2 k hk (by omega)
  · have pk := hon.dg.2.2.2.2.2
    by_cases hkj : k = j
    · subst hkj
      have h1 := hg.2 x hon
      have hon' := hon.dual hD e
      have h2 := (p3 _ hon'.dg).2 _ hon'
      have hx0 : 0 ≤ x ∧ x ≤ n := by
        obtain ⟨a, b, t1, t2, rfl, _, c1, c2, _, _⟩ := hon
        have := c2.le
        omega
      rcases hv with ⟨_, h3⟩ | ⟨_, _, h3⟩
      · omega
      · exact h3 e ⟨hon'.dg, by omega, by omega⟩
    · exact p4 e k x (by omega) hon

/-- At a phase's end. -/
theorem Phase.ends {N : Nat → Nat → Bool} {d d' j : Int} {V W : Int → Int} (hL : Longest M n m L) (hd : 0 ≤ d) (h : Phase M N n m L d d' j V W) (hj : min d n < j) (hge : d ≤ (n : Int) + m - 2 * L) :
    (∀ k, Dg n m d k → Good M n m L d k (V k)) ∧ (n : Int) + m - 2 * L ≠ d + d' := by
  obtain ⟨_, p2, _, p4⟩ := h
  refine ⟨fun k hk => p2 k hk (by have := hk.2.2.1; have := hk.2.2.2.2.1; omega), fun e => ?_⟩
  obtain ⟨k, x, hon⟩ := On.at hL d.toNat (by omega)
  rw [show ((d.toNat : Nat) : Int) = d by omega] at hon
  have hk := hon.dg
  exact p4 e k x (by have := hk.2.2.1; have := hk.2.2.2.2.1; omega) hon

/-- At a phase's beginning. -/
theorem Phase.begins {N : Nat → Nat → Bool} {d d' : Int} {V W : Int → Int} (h1 : ∀ k, Dg n m (d - 1) k → Good M n m L (d - 1) k (V k)) (h2 : ∀ k, Dg n m d' k → Good N n m L d' k (W k)) : Phase M N n m L d d' (low d m) V W :=
  ⟨h1, fun k hk hlt => by have := low_le hk; omega, h2, fun _ k x hlt hon => by have := low_le hon.dg; omega⟩

/-- What the middle snake is asked for: a run inside both texts, behind the origin and ahead of the far corner. -/
def Res (n m : Nat) (x y u v : Int) : Prop := 0 ≤ x ∧ x ≤ u ∧ u ≤ n ∧ 0 ≤ y ∧ v ≤ m ∧ u - x = v - y ∧ x + y < (n : Int) + m ∧ 0 < u + v

theorem Phase.hit {N : Nat → Nat → Bool} {d d' j e : Int} {V W : Int → Int} (hL : Longest M n m L) (hD : Dual n m M N) (h : Phase M N n m L d d' j V W) (hj : Dg n m d j)
    (h0 : 0 ≤ furth V d j n m) (hr : Run M n m j (furth V d j n m) e) (hh : Hit n m d' j e W) (hd1 : 1 ≤ d) (htwo : 2 * L + 2 ≤ n + m) (hge : d + d' ≤ (n : Int) + m - 2 * L) (hd' : d - 1 ≤ d') :
    Res n m (furth V d j n m) (furth V d j n m - j) e (e - j) := by
  have ps := h.start hj h0
  have pe := ps.run hr
  have hw : Pt N n m d' ((n : Int) - m - j) (W ((n : Int) - m - j)) := by
    rcases (h.2.2.1 _ hh.1).1 with q | q
    · have := hh.2.1; omega
    · exact q
  have hmeet := meet hL hD pe hw rfl hh.2.2
  have hcor : ¬ (furth V d j n m = n ∧ (n : Int) - j = m) := fun ⟨q1, q2⟩ => by
    rw [q1] at ps
    have := ps.corner hL q2
    omega
  obtain ⟨x, y, t, e1, e2, e3, e4, _, _, e5⟩ := ps
  obtain ⟨x', y', t', f1, f2, f3, f4, _, _, f5⟩ := pe
  have r1 := hr.1
  refine ⟨h0, r1, by omega, by omega, by omega, by omega, ?_, by omega⟩
  by_cases hq : x = n
  · have : ¬ (n : Int) - j = m := fun q => hcor ⟨by omega, q⟩
    omega
  · omega
end
end Go.Proofs.Qxb6600706a
