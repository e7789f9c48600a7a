/- The plain law of the pick: the point nearest at or after a position. -/
import Derived.Test.Qxb6003649aModsPure2
namespace Go.Proofs.Qxb6003649aMods
set_option linter.unusedVariables false

/-- best is the first of the least positions among the first i that are at or after q. -/
structure Best1 (i : Nat) (P : Nat → Nat) (q best : Nat) : Prop where
  lt : best < i
  ge : q ≤ P best
  min : ∀ x, x < i → q ≤ P x → P best < P x ∨ (P best = P x ∧ best ≤ x)

/-- .. among all of the first i. -/
structure Best2 (i : Nat) (P : Nat → Nat) (best : Nat) : Prop where
  lt : best < i
  min : ∀ x, x < i → P best < P x ∨ (P best = P x ∧ best ≤ x)

theorem Best1.start {i : Nat} {P : Nat → Nat} {q : Nat} (h : ∀ x, x < i → P x < q) (hi : q ≤ P i) : Best1 (i + 1) P q i :=
  ⟨by omega, hi, fun x hx hq => by
    by_cases e : x = i
    · subst e; exact .inr ⟨rfl, Nat.le_refl _⟩
    · have := h x (by omega); omega⟩
theorem Best1.take {i : Nat} {P : Nat → Nat} {q b : Nat} (h : Best1 i P q b) (hi : q ≤ P i) (hl : P i < P b) : Best1 (i + 1) P q i :=
  ⟨by omega, hi, fun x hx hq => by
    by_cases e : x = i
    · subst e; exact .inr ⟨rfl, Nat.le_refl _⟩
    · have := h.min x (by omega) hq; omega⟩
theorem Best1.keep {i : Nat} {P : Nat → Nat} {q b : Nat} (h : Best1 i P q b) (hl : P i < q ∨ P b ≤ P i) : Best1 (i + 1) P q b :=
  ⟨by have := h.lt; omega, h.ge, fun x hx hq => by
    by_cases e : x = i
    · subst e; have := h.lt; omega
    · exact h.min x (by omega) hq⟩
theorem Best2.start (P : Nat → Nat) : Best2 1 P 0 := by
  refine ⟨by omega, fun x hx => ?_⟩
  obtain rfl : x = 0 := by omega
  exact .inr ⟨rfl, Nat.le_refl _⟩
theorem Best2.take {i : Nat} {P : Nat → Nat} {b : Nat} (h : Best2 i P b) (hl : P i < P b) : Best2 (i + 1) P i :=
  ⟨by omega, fun x hx => by
    by_cases e : x = i
    · subst e; exact .inr ⟨rfl, Nat.le_refl _⟩
    · have := h.min x (by omega); omega⟩
theorem Best2.keep {i : Nat} {P : Nat → Nat} {b : Nat} (h : Best2 i P b) (hl : P b ≤ P i) : Best2 (i + 1) P b :=
  ⟨by have := h.lt; omega, fun x hx => by
    by_cases e : x = i
    · subst e; have := h.lt; omega
    · exact h.min x (by omega)⟩

/-- The point picked. -/
def Picked (n : Nat) (P : Nat → Nat) (q best : Nat) : Prop := Best1 n P q best ∨ (Best2 n P best ∧ ∀ x, x < n → P x < q)

theorem Picked.lt {n : Nat} {P : Nat → Nat} {q best : Nat} (h : Picked n P q best) : best < n := by
  rcases h with h | ⟨h, _⟩
  · exact h.lt
  · exact h.lt

theorem Picked.rank {n : Nat} {P : Nat → Nat} {q best : Nat} (h : Picked n P q best) : rank n P best = cnt n (fun x => decide (P x < P best)) := by
  refine cnt_congr (fun x hx => ?_)
  have : Lx P x best ↔ P x < P best := by
    unfold Lx
    rcases h with h | ⟨h, _⟩
    · have h1 := h.min x hx
      have h2 := h.ge
      omega
    · have h1 := h.min x hx
      omega
  simp only [this]

theorem Picked.order {n : Nat} {P s : Nat → Nat} {q best : Nat} (h : Picked n P q best) (hs : Stable n P s) : cnt n (fun x => decide (P x < P best)) < n ∧ s (cnt n (fun x => decide (P x < P best))) = best := by
  have hl := h.lt
  have h1 := rank_bd (n := n) (κ := P) hl
  rw [h.rank] at h1
  refine ⟨h1, ?_⟩
  refine rank_inj (κ := P) (hs.lt _ h1) hl ?_
  rw [hs.rank h1, h.rank]

end Go.Proofs.Qxb6003649aMods
