/- What a deal of sortPoints leaves in memory. -/
import Derived.Test.Qxb6003649aModsNums
namespace Go.Proofs.Qxb6003649aMods
open Go.RowKit
set_option linter.unusedVariables false

/-- From w to w' new blocks have come, and of the old ones only those of S have turned. -/
structure Ch (S : List Nat) (w w' : World) : Prop where
  os : w'.os = w.os
  tape : w'.tape = w.tape
  output : w'.output = w.output
  size : w.heap.size ≤ w'.heap.size
  block : ∀ k, k < w.heap.size → k ∉ S → w'.heap[k]? = w.heap[k]?

theorem Ch.refl (S : List Nat) (w : World) : Ch S w w := ⟨rfl, rfl, rfl, Nat.le_refl _, fun _ _ _ => rfl⟩
theorem Ch.trans {S : List Nat} {a b c : World} (h : Ch S a b) (k : Ch S b c) : Ch S a c :=
  ⟨k.os.trans h.os, k.tape.trans h.tape, k.output.trans h.output, Nat.le_trans h.size k.size, fun i hi hn => (k.block i (Nat.lt_of_lt_of_le hi h.size) hn).trans (h.block i hi hn)⟩
/-- A second step that turns blocks of S and blocks that are new since a. -/
theorem Ch.andThen {S S' : List Nat} {a b c : World} (h : Ch S a b) (k : Ch S' b c) (hs : ∀ i ∈ S', i ∈ S ∨ a.heap.size ≤ i) : Ch S a c :=
  ⟨k.os.trans h.os, k.tape.trans h.tape, k.output.trans h.output, Nat.le_trans h.size k.size, fun i hi hn =>
    (k.block i (Nat.lt_of_lt_of_le hi h.size) (fun e => by
      rcases hs i e with h1 | h1
      · exact hn h1
      · omega)).trans (h.block i hi hn)⟩
theorem Ch.of_below {w w' : World} (h : Below w.heap.size w w') (S : List Nat) : Ch S w w' := ⟨h.os, h.tape, h.output, h.size, fun k hk _ => h.block k hk⟩
theorem Ch.below {B : Nat} {S : List Nat} {w w' : World} (h : Ch S w w') (hB : B ≤ w.heap.size) (hS : ∀ k ∈ S, B ≤ k) : Below B w w' :=
  ⟨h.os, h.tape, h.output, h.size, fun k hk => h.block k (by omega) (fun e => by have := hS k e; omega)⟩
theorem Ch.setCell {S : List Nat} {w w' : World} (h : Ch S w w') {b i : Nat} (hb : b ∈ S) (v : Value) : Ch S w (w'.setCell ⟨b, i, none⟩ v) :=
  h.trans ⟨rfl, rfl, rfl, by simp [World.setCell], fun k _ hn => Below.heap_setCell _ _ _ _ (fun e => hn (by rw [e]; exact hb))⟩
theorem Ch.drewN {S : List Nat} {w w' : World} (h : Ch S w w') (n : Nat) : Ch S w (w'.drewN n) := h.trans ⟨rfl, rfl, rfl, Nat.le_refl _, fun _ _ _ => rfl⟩

/-- Blocks that count only where there are points. -/
def Lx0 (n : Nat) (xs : List Nat) : List Nat := if n = 0 then [] else xs
theorem not_Lx0 {n a : Nat} {xs : List Nat} (h : 0 < n → a ∉ xs) : a ∉ Lx0 n xs := by
  unfold Lx0
  split
  · simp
  · exact h (by omega)
theorem in_Lx0 {n a : Nat} {xs : List Nat} (h0 : 0 < n) (h : a ∈ xs) : a ∈ Lx0 n xs := by
  unfold Lx0
  rw [if_neg (by omega)]
  exact h

theorem Lx0_sub {n : Nat} {xs ys : List Nat} (h : ∀ a ∈ xs, a ∈ ys) : ∀ a ∈ Lx0 n xs, a ∈ Lx0 n ys := by
  unfold Lx0
  split
  · simp
  · exact h

/-- A deal into the wide positions and the owners, j points dealt. -/
structure DW (ws : World) (N Wb ob n d : Nat) (S R O : Nat → Nat) (j : Nat) (wr : World) : Prop where
  nx : ∃ f, TRow .i64 61 wr N 6144 f ∧ (∀ v, v < 2048 → f (d * 2048 + v) = NX R n d j v) ∧ ∀ i, (d + 1) * 2048 ≤ i → i < 6144 → f i = S i
  wide : ∃ g, TRow .u32 25 wr Wb n g ∧ Dealt R n d j R g
  own : 0 < n → ∃ g, TRow .u16 42 wr ob n g ∧ Dealt R n d j O g
  ch : Ch (N :: Wb :: Lx0 n [ob]) ws wr

theorem nx_step {N n d j r v : Nat} {S R : Nat → Nat} {wr : World} (h : ∃ f, TRow .i64 61 wr N 6144 f ∧ (∀ v, v < 2048 → f (d * 2048 + v) = NX R n d j v) ∧ ∀ i, (d + 1) * 2048 ≤ i → i < 6144 → f i = S i) (hj : j < n) (hv : v = dg d (R j)) (hr : r = rank n (fun x => dg d (R x)) j) :
    ∃ f, TRow .i64 61 (wr.setCell ⟨N, d * 2048 + v, none⟩ (.int .i64 ((r + 1 : Nat) : Int))) N 6144 f ∧ (∀ v, v < 2048 → f (d * 2048 + v) = NX R n d (j + 1) v) ∧ ∀ i, (d + 1) * 2048 ≤ i → i < 6144 → f i = S i := by
  obtain ⟨f, h1, h2, h3⟩ := h
  have hv2 : v < 2048 := by have := dg_lt d (R j); omega
  refine ⟨_, h1.set _ _, fun u hu => ?_, fun i hi h6 => ?_⟩
  · rw [← NX_step, ← hv]
    by_cases e : u = v
    · subst e
      rw [if_pos rfl, if_pos rfl, hr, ← NX_rank (by omega), ← hv]
    · rw [if_neg (by omega), if_neg e]
      exact h2 u hu
  · rw [if_neg (by omega)]
    exact h3 i hi h6

theorem DW.step {ws : World} {N Wb ob n d : Nat} {S R O : Nat → Nat} {j : Nat} {wr : World} (h : DW ws N Wb ob n d S R O j wr) (hj : j < n) (n1 : N ≠ Wb) (n2 : N ≠ ob) (n3 : Wb ≠ ob) (m : Nat) {v r q o : Nat}
    (hv : v = dg d (R j)) (hr : r = rank n (fun x => dg d (R x)) j) (hq : q = R j) (ho : o = O j) :
    DW ws N Wb ob n d S R O (j + 1) ((((wr.drewN m).setCell ⟨Wb, r, none⟩ (.int .u32 (q : Int))).setCell ⟨ob, r, none⟩ (.int .u16 (o : Int))).setCell ⟨N, d * 2048 + v, none⟩ (.int .i64 ((r + 1 : Nat) : Int))) := by
  obtain ⟨h1, ⟨g, h2, h3⟩, h4, h5⟩ := h
  refine ⟨?_, ?_, fun h0 => ?_, ?_⟩
  · refine nx_step ?_ hj hv hr
    obtain ⟨f, a1, a2, a3⟩ := h1
    exact ⟨f, ((a1.drewN m).other n1 _).other n2 _, a2, a3⟩
  · refine ⟨_, (((h2.drewN m).set r q).other n3 _).other n1.symm _, ?_⟩
    subst hq hr
    exact h3.step hj
  · obtain ⟨g2, h6, h7⟩ := h4 h0
    refine ⟨_, (((h6.drewN m).other n3.symm _).set r o).other n2.symm _, ?_⟩
    subst ho hr
    exact h7.step hj
  · exact (((h5.drewN m).setCell (by simp) _).setCell (by have := in_Lx0 (n := n) (a := ob) (xs := [ob]) (by omega) (by simp); simp [this]) _).setCell (by simp) _

/-- A deal into the points. -/
structure DP (ws : World) (N pb n d : Nat) (S R V : Nat → Nat) (j : Nat) (wr : World) : Prop where
  nx : ∃ f, TRow .i64 61 wr N 6144 f ∧ (∀ v, v < 2048 → f (d * 2048 + v) = NX R n d j v) ∧ ∀ i, (d + 1) * 2048 ≤ i → i < 6144 → f i = S i
  pts : 0 < n → ∃ g, TRow .u64 35 wr pb n g ∧ Dealt R n d j V g
  ch : Ch (N :: Lx0 n [pb]) ws wr

theorem DP.step {ws : World} {N pb n d : Nat} {S R V : Nat → Nat} {j : Nat} {wr : World} (h : DP ws N pb n d S R V j wr) (hj : j < n) (n1 : N ≠ pb) (m : Nat) {v r q : Nat}
    (hv : v = dg d (R j)) (hr : r = rank n (fun x => dg d (R x)) j) (hq : q = V j) :
    DP ws N pb n d S R V (j + 1) (((wr.drewN m).setCell ⟨pb, r, none⟩ (.int .u64 (q : Int))).setCell ⟨N, d * 2048 + v, none⟩ (.int .i64 ((r + 1 : Nat) : Int))) := by
  obtain ⟨h1, h4, h5⟩ := h
  refine ⟨?_, fun h0 => ?_, ?_⟩
  · refine nx_step ?_ hj hv hr
    obtain ⟨f, a1, a2, a3⟩ := h1
    exact ⟨f, (a1.drewN m).other n1 _, a2, a3⟩
  · obtain ⟨g2, h6, h7⟩ := h4 h0
    refine ⟨_, ((h6.drewN m).set r q).other n1.symm _, ?_⟩
    subst hq hr
    exact h7.step hj
  · exact ((h5.drewN m).setCell (by have := in_Lx0 (n := n) (a := pb) (xs := [pb]) (by omega) (by simp); simp [this]) _).setCell (by simp) _

theorem nx_cell {N n d j : Nat} {S R : Nat → Nat} {wr : World} (h : ∃ f, TRow .i64 61 wr N 6144 f ∧ (∀ v, v < 2048 → f (d * 2048 + v) = NX R n d j v) ∧ ∀ i, (d + 1) * 2048 ≤ i → i < 6144 → f i = S i) (hj : j < n) (hd : d < 3) :
    wr.cell? ⟨N, d * 2048 + dg d (R j), none⟩ = some (.int .i64 ((rank n (fun x => dg d (R x)) j : Nat) : Int)) ∧ wr.frozen? ⟨N, d * 2048 + dg d (R j), none⟩ = false := by
  obtain ⟨f, h1, h2, h3⟩ := h
  have hv := dg_lt d (R j)
  refine ⟨?_, h1.frozen _⟩
  rw [h1.cell (by omega), h2 _ hv, NX_rank (by omega)]

/-- The circle's block. -/
def CBlk (w : World) (C : Nat) (wd ow nm pl : Value) : Prop := w.heap[C]? = some (.cells #[wd, .slice none 0 0, .slice none 0 0, ow, nm, pl] 52 (0, 0))

theorem CBlk.cells {w : World} {C : Nat} {wd ow nm pl : Value} (h : CBlk w C wd ow nm pl) : w.cell? ⟨C, 0, none⟩ = some wd ∧ w.cell? ⟨C, 2, none⟩ = some (.slice none 0 0) ∧ w.cell? ⟨C, 3, none⟩ = some ow ∧ w.frozen? ⟨C, 0, none⟩ = false := by
  unfold CBlk at h
  refine ⟨?_, ?_, ?_, ?_⟩ <;> simp [World.cell?, World.frozen?, h]
theorem CBlk.of_block {w w' : World} {C : Nat} {wd ow nm pl : Value} (h : CBlk w C wd ow nm pl) (e : w'.heap[C]? = w.heap[C]?) : CBlk w' C wd ow nm pl := e.trans h
theorem CBlk.lt {w : World} {C : Nat} {wd ow nm pl : Value} (h : CBlk w C wd ow nm pl) : C < w.heap.size := by
  obtain ⟨hlt, _⟩ := Array.getElem?_eq_some_iff.1 h
  exact hlt
theorem CBlk.setWide {w : World} {C : Nat} {wd ow nm pl : Value} (h : CBlk w C wd ow nm pl) (v : Value) : CBlk (w.setCell ⟨C, 0, none⟩ v) C v ow nm pl := by
  unfold CBlk at *
  simp [World.setCell, Array.getElem?_modify, h]

end Go.Proofs.Qxb6003649aMods
