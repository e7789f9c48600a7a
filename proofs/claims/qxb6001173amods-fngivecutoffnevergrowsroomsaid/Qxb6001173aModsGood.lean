/- What holds of the counts at every step of a script: no walk here. -/
import Derived.Test.Qxb6001173aModsW5
namespace Go.Proofs.Qxb6001173aMods
open Go.RowKit Go.Maps
set_option linter.unusedVariables false

/-- The script's keys. -/
def kb (i : Nat) : List UInt8 := [107, UInt8.ofNat (97 + i)]
def IsKb (k : List UInt8) : Prop := ∃ i, i < 8 ∧ k = kb i

/-- Bounds, and what the entries are: K: which keys there are. -/
structure Gd (K : List UInt8 → Prop) (s : St) (c : Nat) : Prop where
  T0 : 0 ≤ s.T
  T1 : s.T ≤ 65536
  E0 : 0 ≤ s.E
  E1 : s.E ≤ 65536
  N0 : -(c : Int) ≤ s.N
  N1 : s.N ≤ c
  L0 : 0 ≤ s.L
  L1 : s.L ≤ c
  bn : s.bn ≤ c
  rn : s.rn ≤ c
  on_ : s.on_ ≤ c
  by_ : ∀ k l, s.by_ k = some l → K k ∧ 1 ≤ l.u ∧ l.u ≤ s.E ∧ 0 ≤ l.w ∧ l.w ≤ s.E ∧ 0 ≤ l.g ∧ l.g ≤ s.E
  re : ∀ k r, s.re k = some r → K k ∧ 0 ≤ r.w ∧ r.w ≤ s.E ∧ -1 ≤ r.t ∧ r.t ≤ c
  ol : ∀ k r, s.ol k = some r → K k ∧ 0 ≤ r.w ∧ r.w ≤ s.E ∧ -1 ≤ r.t ∧ r.t ≤ c

abbrev Good (s : St) (c : Nat) : Prop := Gd IsKb s c

theorem Gd.ok {K : List UInt8 → Prop} {s : St} {c : Nat} (h : Gd K s c) (hc : c ≤ 900000) : s.Ok := by
  obtain ⟨t0, t1, e0, e1, n0, n1, l0, l1, b1, r1, o1, hb, hr, ho⟩ := h
  refine ⟨t0, t1, e0, e1, by omega, by omega, l0, by omega, by omega, by omega, by omega, fun k l hk => ?_, fun k r hk => ?_, fun k r hk => ?_⟩
  · obtain ⟨_, h1⟩ := hb k l hk
    unfold Ld.Ok
    omega
  · obtain ⟨_, h1⟩ := hr k r hk
    unfold Rs.Ok
    omega
  · obtain ⟨_, h1⟩ := ho k r hk
    unfold Rs.Ok
    omega

theorem good_new (T E : Int) (t0 : 0 ≤ T) (t1 : T ≤ 65536) (e0 : 0 ≤ E) (e1 : E ≤ 65536) : Good ⟨T, E, 0, 0, fun _ => none, 0, fun _ => none, 0, fun _ => none, 0⟩ 0 :=
  ⟨t0, t1, e0, e1, by simp, by simp, by simp, by simp, by simp, by simp, by simp, fun k l hk => by simp at hk, fun k l hk => by simp at hk, fun k l hk => by simp at hk⟩

theorem good_claim {K : List UInt8 → Prop} {s : St} {c : Nat} (h : Gd K s c) : Gd K { s with L := s.L + 1 } (c + 1) := by
  obtain ⟨t0, t1, e0, e1, n0, n1, l0, l1, b1, r1, o1, hb, hr, ho⟩ := h
  refine ⟨t0, t1, e0, e1, ?_, ?_, ?_, ?_, ?_, ?_, ?_, hb, fun k r hk => ?_, fun k r hk => ?_⟩
  all_goals simp only []
  all_goals try omega
  · obtain ⟨h0, h1⟩ := hr k r hk
    exact ⟨h0, by omega⟩
  · obtain ⟨h0, h1⟩ := ho k r hk
    exact ⟨h0, by omega⟩

theorem good_same {K : List UInt8 → Prop} {s : St} {c : Nat} (h : Gd K s c) : Gd K s (c + 1) := by
  obtain ⟨t0, t1, e0, e1, n0, n1, l0, l1, b1, r1, o1, hb, hr, ho⟩ := h
  refine ⟨t0, t1, e0, e1, ?_, ?_, ?_, ?_, ?_, ?_, ?_, hb, fun k r hk => ?_, fun k r hk => ?_⟩
  all_goals try omega
  · obtain ⟨h0, h1⟩ := hr k r hk
    exact ⟨h0, by omega⟩
  · obtain ⟨h0, h1⟩ := ho k r hk
    exact ⟨h0, by omega⟩

theorem good_rest {K : List UInt8 → Prop} {s : St} {c : Nat} (h : Gd K s c) (k : List UInt8) : 0 ≤ (s.rest k).w ∧ (s.rest k).w ≤ s.E ∧ -1 ≤ (s.rest k).t := by
  unfold St.rest
  have e0 := h.E0
  cases e : s.re k with
  | some r => obtain ⟨_, h1⟩ := h.re k r e; simp only []; omega
  | none =>
    cases e' : s.ol k with
    | some r => obtain ⟨_, h1⟩ := h.ol k r e'; simp only []; omega
    | none => simp only [Rs.nil]; omega

theorem good_load {K : List UInt8 → Prop} {s : St} {c : Nat} (h : Gd K s c) (k : List UInt8) : 0 ≤ (s.load k).u ∧ (s.load k).u ≤ s.E ∧ 0 ≤ (s.load k).w ∧ (s.load k).w ≤ s.E ∧ 0 ≤ (s.load k).g ∧ (s.load k).g ≤ s.E := by
  have e0 := h.E0
  unfold St.load
  cases e : s.by_ k with
  | some l => obtain ⟨_, h1⟩ := h.by_ k l e; simp only []; omega
  | none =>
    have := good_rest h k
    simp only []
    split <;> simp only [] <;> omega

theorem roomP_pos {free share E n win : Int} (h : 0 < roomP free share E n win) : n < E ∧ (0 < free ∨ 0 < free - share) := by
  unfold roomP at h; omega

theorem good_take {K : List UInt8 → Prop} {s : St} {c : Nat} (h : Gd K s c) (k : List UInt8) (hk : K k) (hr : 0 < s.room k) : Gd K (s.take k) (c + 1) := by
  have hl := good_load h k
  have hp := (roomP_pos hr).1
  obtain ⟨t0, t1, e0, e1, n0, n1, l0, l1, b1, r1, o1, hb, hr', ho⟩ := h
  refine ⟨t0, t1, e0, e1, ?_, ?_, ?_, ?_, ?_, ?_, ?_, fun k' l hk' => ?_, fun k' r hk' => ?_, fun k' r hk' => ?_⟩
  all_goals simp only [St.take] at *
  all_goals try omega
  · split <;> omega
  · unfold upd at hk'
    split at hk'
    · rename_i e
      subst e
      cases hk'
      simp only [Ld.up]
      exact ⟨hk, by omega⟩
    · exact hb k' l hk'
  · obtain ⟨h0, h1⟩ := hr' k' r hk'
    exact ⟨h0, by omega⟩
  · obtain ⟨h0, h1⟩ := ho k' r hk'
    exact ⟨h0, by omega⟩

theorem good_ended {s : St} {c : Nat} (h : Good s c) (k : List UInt8) (l : Ld) (hl : s.by_ k = some l) (e : Int) : Good (s.ended k (l.after e s.E)) (c + 1) := by
  obtain ⟨t0, t1, e0, e1, n0, n1, l0, l1, b1, r1, o1, hb, hr, ho⟩ := h
  obtain ⟨hk, b⟩ := hb k l hl
  have ha : 0 ≤ (l.after e s.E).w ∧ (l.after e s.E).w ≤ s.E ∧ 0 ≤ (l.after e s.E).g ∧ (l.after e s.E).g ≤ s.E ∧ (l.after e s.E).u = l.u - 1 := by
    unfold Ld.after
    by_cases h1 : e = 1
    · simp [h1]; omega
    · by_cases h2 : e = 2
      · simp [h2]; omega
      · simp [h1, h2]; omega
  generalize l.after e s.E = m at *
  unfold St.ended
  have hup : ∀ (x : Option Ld) k' l', (∀ y, x = some y → 1 ≤ y.u ∧ y.u ≤ s.E ∧ 0 ≤ y.w ∧ y.w ≤ s.E ∧ 0 ≤ y.g ∧ y.g ≤ s.E) → upd s.by_ k x k' = some l' → IsKb k' ∧ 1 ≤ l'.u ∧ l'.u ≤ s.E ∧ 0 ≤ l'.w ∧ l'.w ≤ s.E ∧ 0 ≤ l'.g ∧ l'.g ≤ s.E := by
    intro x k' l' hx h'
    unfold upd at h'
    split at h'
    · rename_i e'
      subst e'
      exact ⟨hk, hx l' h'⟩
    · exact hb k' l' h'
  have hr2 : ∀ k' r, s.re k' = some r → IsKb k' ∧ 0 ≤ r.w ∧ r.w ≤ s.E ∧ -1 ≤ r.t ∧ r.t ≤ ((c + 1 : Nat) : Int) := fun k' r h' => by
    obtain ⟨h0, h1⟩ := hr k' r h'
    exact ⟨h0, by omega⟩
  have ho2 : ∀ k' r, s.ol k' = some r → IsKb k' ∧ 0 ≤ r.w ∧ r.w ≤ s.E ∧ -1 ≤ r.t ∧ r.t ≤ ((c + 1 : Nat) : Int) := fun k' r h' => by
    obtain ⟨h0, h1⟩ := ho k' r h'
    exact ⟨h0, by omega⟩
  have hdel : ∀ (f : List UInt8 → Option Rs) (x : Option Rs), (∀ k' r, f k' = some r → IsKb k' ∧ 0 ≤ r.w ∧ r.w ≤ s.E ∧ -1 ≤ r.t ∧ r.t ≤ ((c + 1 : Nat) : Int)) → (∀ y, x = some y → 0 ≤ y.w ∧ y.w ≤ s.E ∧ -1 ≤ y.t ∧ y.t ≤ ((c + 1 : Nat) : Int)) →
      ∀ k' r, upd f k x k' = some r → IsKb k' ∧ 0 ≤ r.w ∧ r.w ≤ s.E ∧ -1 ≤ r.t ∧ r.t ≤ ((c + 1 : Nat) : Int) := by
    intro f x hf hx k' r h'
    unfold upd at h'
    split at h'
    · rename_i e'
      subst e'
      exact ⟨hk, hx r h'⟩
    · exact hf k' r h'
  split
  · refine ⟨t0, t1, e0, e1, ?_, ?_, l0, ?_, ?_, ?_, ?_, fun k' l' => hup _ k' l' (fun y hy => by cases hy; omega), hr2, ho2⟩
    all_goals simp only []
    all_goals omega
  · have hx : ∀ y, some (restOf m s.L) = some y → 0 ≤ y.w ∧ y.w ≤ s.E ∧ -1 ≤ y.t ∧ y.t ≤ ((c + 1 : Nat) : Int) := by
      intro y hy
      cases hy
      simp only [restOf]
      refine ⟨by omega, by omega, ?_⟩
      split <;> omega
    unfold St.putBack
    split
    · refine ⟨t0, t1, e0, e1, ?_, ?_, l0, ?_, ?_, ?_, ?_, fun k' l' => hup _ k' l' (fun y hy => by cases hy), hdel _ _ hr2 (fun y hy => by cases hy), hdel _ _ ho2 (fun y hy => by cases hy)⟩
      all_goals simp only []
      all_goals try split
      all_goals omega
    · split
      · refine ⟨t0, t1, e0, e1, ?_, ?_, l0, ?_, ?_, ?_, ?_, fun k' l' => hup _ k' l' (fun y hy => by cases hy), hdel _ _ (fun k' r h' => by cases h') hx, hr2⟩
        all_goals simp only []
        all_goals omega
      · refine ⟨t0, t1, e0, e1, ?_, ?_, l0, ?_, ?_, ?_, ?_, fun k' l' => hup _ k' l' (fun y hy => by cases hy), hdel _ _ hr2 hx, ho2⟩
        all_goals simp only []
        all_goals try split
        all_goals omega

theorem Gd.weaken {K K' : List UInt8 → Prop} {s : St} {c : Nat} (h : Gd K s c) (hK : ∀ k, K k → K' k) : Gd K' s c :=
  ⟨h.T0, h.T1, h.E0, h.E1, h.N0, h.N1, h.L0, h.L1, h.bn, h.rn, h.on_, fun k l e => ⟨hK _ (h.by_ k l e).1, (h.by_ k l e).2⟩, fun k l e => ⟨hK _ (h.re k l e).1, (h.re k l e).2⟩, fun k l e => ⟨hK _ (h.ol k l e).1, (h.ol k l e).2⟩⟩
end Go.Proofs.Qxb6001173aMods
