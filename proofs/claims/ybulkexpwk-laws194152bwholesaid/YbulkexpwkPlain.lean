import Derived.WalkKit
namespace Go.Proofs.Ybulkexpwk
open Go.RowKit
set_option linter.unusedVariables false

/-- The links, the parents, the sums and the counter. -/
structure St where
  L : Nat → Nat
  R : Nat → Nat
  P : Nat → Int
  G : Nat → Int
  K : Int

def upd {α : Type} (f : Nat → α) (i : Nat) (v : α) : Nat → α := fun j => if j = i then v else f j
theorem upd_same {α : Type} (f : Nat → α) (i : Nat) (v : α) : upd f i v i = v := by simp [upd]
theorem upd_other {α : Type} (f : Nat → α) {i j : Nat} (v : α) (h : j ≠ i) : upd f i v j = f j := by simp [upd, h]
theorem upd_id {α : Type} (f : Nat → α) (i : Nat) : upd f i (f i) = f := by funext j; by_cases h : j = i <;> simp [upd, h]

/-- What one pick does on the way up: node p gets 'child' on one side; the parents; the sum; the count. -/
def linkS (p l r : Nat) (s : St) : St := { s with L := upd s.L p l, R := upd s.R p r, P := upd (upd s.P l (p : Int)) r (p : Int) }
def totalS (stale : Bool) (own : Nat → Int) (p : Nat) (s : St) : St :=
  if stale then s else { s with G := upd s.G p (wrap64 (wrap64 (s.G (s.L p) + own p) + s.G (s.R p))), K := wrap64 (s.K + 1) }
def stepS (stale : Bool) (own : Nat → Int) (p : Nat) (f : Bool) (child : Nat) (s : St) : St :=
  totalS stale own p (linkS p (if f then s.L p else child) (if f then child else s.R p) s)

/-- The picks from the top down; the way up goes from the last. -/
def upS (stale : Bool) (own : Nat → Int) : List (Nat × Bool) → Nat → St → Nat × St
  | [], rest, s => (rest, s)
  | (p, f) :: ps, rest, s => (p, stepS stale own p f (upS stale own ps rest s).1 (upS stale own ps rest s).2)

/-- Which picks the two spines give. -/
def Zip (rk : Nat → Int) (L R : Nat → Nat) : List (Nat × Bool) → Nat → Nat → Nat → Prop
  | [], a, b, rest => (a = 0 ∧ rest = b) ∨ (a ≠ 0 ∧ b = 0 ∧ rest = a)
  | (p, f) :: ps, a, b, rest => a ≠ 0 ∧ b ≠ 0 ∧ ((rk b < rk a ∧ p = a ∧ f = true ∧ Zip rk L R ps (R a) b rest) ∨ (¬ rk b < rk a ∧ p = b ∧ f = false ∧ Zip rk L R ps a (L b) rest))

/-- The links lead up on the right, down on the left, and stay within n. -/
structure Ok (n : Nat) (L R : Nat → Nat) : Prop where
  left : ∀ x, L x = 0 ∨ L x < x
  right : ∀ x, R x = 0 ∨ (x < R x ∧ R x ≤ n)

def mu (n a b : Nat) : Nat := (if a = 0 then 0 else n + 1 - a) + b

theorem zip_exists (rk : Nat → Int) (L R : Nat → Nat) (n : Nat) (h : Ok n L R) : ∀ (m a b : Nat), a ≤ n → b ≤ n → mu n a b ≤ m → ∃ ps rest, Zip rk L R ps a b rest ∧ ps.length ≤ m := by
  intro m
  induction m with
  | zero =>
    intro a b ha hb hm
    simp only [mu] at hm
    have a0 : a = 0 := by split at hm <;> omega
    exact ⟨[], b, Or.inl ⟨a0, rfl⟩, by simp⟩
  | succ m ih =>
    intro a b ha hb hm
    by_cases a0 : a = 0
    · exact ⟨[], b, Or.inl ⟨a0, rfl⟩, by simp⟩
    by_cases b0 : b = 0
    · exact ⟨[], a, Or.inr ⟨a0, b0, rfl⟩, by simp⟩
    simp only [mu, if_neg a0] at hm
    by_cases hr : rk b < rk a
    · obtain ⟨ps, rest, hz, hl⟩ := ih (R a) b (by rcases h.right a with e | e <;> omega) hb (by
        simp only [mu]; rcases h.right a with e | e
        · rw [if_pos e]; omega
        · rw [if_neg (by omega)]; omega)
      exact ⟨(a, true) :: ps, rest, ⟨a0, b0, .inl ⟨hr, rfl, rfl, hz⟩⟩, by simp; omega⟩
    · obtain ⟨ps, rest, hz, hl⟩ := ih a (L b) ha (by rcases h.left b with e | e <;> omega) (by
        simp only [mu, if_neg a0]; rcases h.left b with e | e <;> omega)
      exact ⟨(b, false) :: ps, rest, ⟨a0, b0, .inr ⟨hr, rfl, rfl, hz⟩⟩, by simp; omega⟩

theorem zip_bound {rk : Nat → Int} {L R : Nat → Nat} {n : Nat} (h : Ok n L R) : ∀ (ps : List (Nat × Bool)) (a b rest : Nat), a ≤ n → b ≤ n → Zip rk L R ps a b rest → rest ≤ n ∧ ∀ q ∈ ps, q.1 ≤ n ∧ q.1 ≠ 0 := by
  intro ps
  induction ps with
  | nil =>
    intro a b rest ha hb hz
    rcases hz with ⟨_, e⟩ | ⟨_, _, e⟩ <;> exact ⟨by omega, fun q hq => by cases hq⟩
  | cons pf ps ih =>
    intro a b rest ha hb hz
    obtain ⟨p, f⟩ := pf
    obtain ⟨a0, b0, hz⟩ := hz
    rcases hz with ⟨_, rfl, rfl, hz⟩ | ⟨_, rfl, rfl, hz⟩
    · obtain ⟨h1, h2⟩ := ih (R p) b rest (by rcases h.right p with e | e <;> omega) hb hz
      exact ⟨h1, fun q hq => by rcases List.mem_cons.1 hq with rfl | hq; exact ⟨ha, a0⟩; exact h2 q hq⟩
    · obtain ⟨h1, h2⟩ := ih a (L p) rest ha (by rcases h.left p with e | e <;> omega) hz
      exact ⟨h1, fun q hq => by rcases List.mem_cons.1 hq with rfl | hq; exact ⟨hb, b0⟩; exact h2 q hq⟩

/-- All links stay within n. -/
def InB (n : Nat) (s : St) : Prop := ∀ x, s.L x ≤ n ∧ s.R x ≤ n

theorem totalS_links (stale : Bool) (own : Nat → Int) (p : Nat) (s : St) : (totalS stale own p s).L = s.L ∧ (totalS stale own p s).R = s.R ∧ (totalS stale own p s).P = s.P := by
  unfold totalS; split <;> exact ⟨rfl, rfl, rfl⟩

theorem upS_bound (stale : Bool) (own : Nat → Int) (n rest : Nat) (s : St) (hs : InB n s) (hr : rest ≤ n) : ∀ (ps : List (Nat × Bool)), (∀ q ∈ ps, q.1 ≤ n ∧ q.1 ≠ 0) → (upS stale own ps rest s).1 ≤ n ∧ InB n (upS stale own ps rest s).2 := by
  intro ps
  induction ps with
  | nil => intro _; exact ⟨hr, hs⟩
  | cons pf ps ih =>
    intro hp
    obtain ⟨p, f⟩ := pf
    obtain ⟨h1, h2⟩ := ih (fun q hq => hp q (List.mem_cons_of_mem _ hq))
    refine ⟨(hp (p, f) (List.mem_cons_self ..)).1, fun x => ?_⟩
    simp only [upS, stepS]
    obtain ⟨e1, e2, _⟩ := totalS_links stale own p (linkS p (if f then (upS stale own ps rest s).2.L p else (upS stale own ps rest s).1) (if f then (upS stale own ps rest s).1 else (upS stale own ps rest s).2.R p) (upS stale own ps rest s).2)
    rw [e1, e2]
    simp only [linkS, upd]
    have hx := h2 x
    have hpx := h2 p
    constructor
    · split
      · cases f
        · exact h1
        · exact hpx.1
      · exact hx.1
    · split
      · cases f
        · exact hpx.2
        · exact h1
      · exact hx.2
end Go.Proofs.Ybulkexpwk
