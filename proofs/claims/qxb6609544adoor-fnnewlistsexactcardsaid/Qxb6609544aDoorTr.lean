import Derived.Test.Qxb6609544aDoorJoin
namespace Go.Proofs.Qxb6609544aDoor
open Go.RowKit Go.Sort

/-- The greatest last address. -/
def mxL : List (Int × Int) → Int
  | [] => -1
  | x :: l => mx x.2 (mxL l)
def allL (l : List (Int × Int)) : Prop := ∀ x, x ∈ l → isN x.1 ∧ isN x.2

theorem mxL_ge : ∀ l : List (Int × Int), allL l → -1 ≤ mxL l
  | [], _ => by simp [mxL]
  | x :: l, h => by
    have h1 := mxL_ge l (fun y hy => h y (List.mem_cons_of_mem _ hy))
    have h2 := (h x (List.mem_cons_self ..)).2.1
    simp only [mxL]; unfold mx; split <;> omega
theorem mxL_N : ∀ l : List (Int × Int), allL l → l ≠ [] → isN (mxL l)
  | [], _, h => absurd rfl h
  | x :: l, h, _ => by
    have h2 := (h x (List.mem_cons_self ..)).2
    by_cases e : l = []
    · subst e
      obtain ⟨q1, q2⟩ := h2
      simp only [mxL, isN]; unfold mx; split <;> omega
    · obtain ⟨p1, p2⟩ := mxL_N l (fun y hy => h y (List.mem_cons_of_mem _ hy)) e
      obtain ⟨q1, q2⟩ := h2
      simp only [mxL, isN]; unfold mx; split <;> omega
theorem mxL_append : ∀ a b : List (Int × Int), allL a → allL b → mxL (a ++ b) = mx (mxL a) (mxL b)
  | [], b, _, hb => by
    have := mxL_ge b hb
    simp only [List.nil_append, mxL]; unfold mx; split <;> omega
  | x :: a, b, ha, hb => by
    have h := mxL_append a b (fun y hy => ha y (List.mem_cons_of_mem _ hy)) hb
    simp only [List.cons_append, mxL, h]
    unfold mx; split <;> split <;> (try split) <;> (try split) <;> omega
theorem mxL_mid (a b : List (Int × Int)) (x : Int × Int) (ha : allL a) (hx : isN x.1 ∧ isN x.2) (hb : allL b) : mxL (a ++ x :: b) = mx (mx x.2 (mxL a)) (mxL b) := by
  rw [mxL_append a (x :: b) ha (fun y hy => by rcases List.mem_cons.1 hy with rfl | h; exact hx; exact hb y h)]
  simp only [mxL]
  unfold mx; split <;> split <;> (try split) <;> (try split) <;> omega

/-- A tree in memory of the entries l, in order, its nodes in blocks below k; f: fuel. -/
def Tree (w : World) (zp : Addr) (k : Nat) : Nat → Option Addr → List (Int × Int) → Prop
  | 0, p, l => p = none ∧ l = []
  | f + 1, p, l => (p = none ∧ l = []) ∨ ∃ (B : Nat) (x : Int × Int) (pl pr : Option Addr) (ls rs : List (Int × Int)), p = some ⟨B, 0, none⟩ ∧ B < k ∧ l = ls ++ x :: rs ∧ Node w zp B x pl pr (l.length : Int) (mxL l) ∧ rs.length + 1 ≤ 3 * (ls.length + 1) ∧ ls.length + 1 ≤ 3 * (rs.length + 1) ∧ Tree w zp k f pl ls ∧ Tree w zp k f pr rs

theorem Tree.below {w w' : World} {zp : Addr} {k : Nat} (hb : Below k w w') : ∀ {f : Nat} {p : Option Addr} {l : List (Int × Int)}, Tree w zp k f p l → Tree w' zp k f p l
  | 0, _, _, h => h
  | f + 1, p, l, h => by
    rcases h with h | ⟨B, x, pl, pr, ls, rs, h1, h2, h3, h4, h5, h6, h7, h8⟩
    · exact Or.inl h
    · exact Or.inr ⟨B, x, pl, pr, ls, rs, h1, h2, h3, h4.below hb h2, h5, h6, Tree.below hb h7, Tree.below hb h8⟩
theorem Tree.mono {w : World} {zp : Addr} {k k' : Nat} (hk : k ≤ k') : ∀ {f : Nat} {p : Option Addr} {l : List (Int × Int)}, Tree w zp k f p l → Tree w zp k' f p l
  | 0, _, _, h => h
  | f + 1, p, l, h => by
    rcases h with h | ⟨B, x, pl, pr, ls, rs, h1, h2, h3, h4, h5, h6, h7, h8⟩
    · exact Or.inl h
    · exact Or.inr ⟨B, x, pl, pr, ls, rs, h1, by omega, h3, h4, h5, h6, Tree.mono hk h7, Tree.mono hk h8⟩
theorem Tree.kid {w : World} {zp : Addr} {k : Nat} (hk : k ≤ w.heap.size) : ∀ {f : Nat} {p : Option Addr} {l : List (Int × Int)}, Tree w zp k f p l → allL l → Kid w zp p (l.length : Int) (mxL l)
  | 0, p, l, ⟨h1, h2⟩, _ => by subst h1 h2; exact Or.inl ⟨rfl, rfl, rfl⟩
  | f + 1, p, l, h, hl => by
    rcases h with ⟨h1, h2⟩ | ⟨B, x, pl, pr, ls, rs, h1, h2, h3, h4, h5, h6, h7, h8⟩
    · subst h1 h2; exact Or.inl ⟨rfl, rfl, rfl⟩
    · exact Or.inr ⟨B, x, pl, pr, h1, by omega, h4, mxL_N l hl (by rw [h3]; simp)⟩
end Go.Proofs.Qxb6609544aDoor
