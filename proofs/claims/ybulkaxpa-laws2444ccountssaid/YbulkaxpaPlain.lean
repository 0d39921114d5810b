/-
  Seat b2444a: the plain part: the count of a shape, peer by peer. No program here.
-/
namespace Go.Proofs.Ybulkaxpa

/-- A peer as the law tells it: its role (0, 1, 2), its level, how many entries its bucket table has, how many keys it holds. -/
structure Pr where
  role : Int
  level : Int
  table : Int
  held : Int

/-- The six counts beside the number of nodes. -/
structure St where
  height : Int
  tree : Int
  bucks : Int
  bmin : Int
  bmax : Int
  elems : Int

def stepBucks (s : St) (q : Pr) : St :=
  { height := q.level, tree := s.tree + 1, bucks := s.bucks + 1, bmin := if s.bucks = 0 ∨ q.table < s.bmin then q.table else s.bmin, bmax := if s.bmax < q.table then q.table else s.bmax, elems := s.elems + q.held }

def step (s : St) (q : Pr) : St :=
  if q.role = 2 then { s with elems := s.elems + q.held }
  else if q.role = 1 then stepBucks s q
  else { s with tree := s.tree + 1, elems := s.elems + q.held }

def stTo (f : Nat → Pr) : Nat → St
  | 0 => ⟨0, 0, 0, 0, 0, 0⟩
  | k + 1 => step (stTo f k) (f k)

/-- The bounds under which nothing wraps. -/
structure Bd (s : St) (k : Nat) : Prop where
  t0 : 0 ≤ s.tree
  t1 : s.tree ≤ k
  b0 : 0 ≤ s.bucks
  b1 : s.bucks ≤ k
  e0 : 0 ≤ s.elems
  e1 : s.elems ≤ 5 * k

theorem st_bd (f : Nat → Pr) (n : Nat) (h : ∀ j, j < n → 0 ≤ (f j).held ∧ (f j).held ≤ 5) : ∀ k, k ≤ n → Bd (stTo f k) k
  | 0, _ => ⟨by simp [stTo], by simp [stTo], by simp [stTo], by simp [stTo], by simp [stTo], by simp [stTo]⟩
  | k + 1, hk => by
    have ih := st_bd f n h k (by omega)
    have hh := h k (by omega)
    have := ih.t0; have := ih.t1; have := ih.b0; have := ih.b1; have := ih.e0; have := ih.e1
    unfold stTo step stepBucks
    split
    · exact ⟨by simp; omega, by simp; omega, by simp; omega, by simp; omega, by simp; omega, by simp; omega⟩
    · split
      · exact ⟨by simp; omega, by simp; omega, by simp; omega, by simp; omega, by simp; omega, by simp; omega⟩
      · exact ⟨by simp; omega, by simp; omega, by simp; omega, by simp; omega, by simp; omega, by simp; omega⟩

theorem stTo_congr {f g : Nat → Pr} : ∀ k, (∀ j, j < k → f j = g j) → stTo f k = stTo g k
  | 0, _ => rfl
  | k + 1, h => by
    unfold stTo
    rw [stTo_congr k (fun j hj => h j (by omega)), h k (by omega)]

theorem st_role2 {s : St} {q : Pr} (h : q.role = 2) : step s q = { s with elems := s.elems + q.held } := by unfold step; rw [if_pos h]
theorem st_role1 {s : St} {q : Pr} (h : q.role = 1) : step s q = stepBucks s q := by unfold step; rw [if_neg (by omega), if_pos h]
theorem st_role0 {s : St} {q : Pr} (h2 : ¬ q.role = 2) (h1 : ¬ q.role = 1) : step s q = { s with tree := s.tree + 1, elems := s.elems + q.held } := by unfold step; rw [if_neg h2, if_neg h1]

end Go.Proofs.Ybulkaxpa
