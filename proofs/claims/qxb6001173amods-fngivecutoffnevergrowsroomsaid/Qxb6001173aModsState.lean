/- The counts that 'shares' keeps, as plain data; how they lie in memory; what a step may turn in memory. -/
import Derived.Test.Qxb6001173aModsMaps
import Derived.Deep.Draws
namespace Go.Proofs.Qxb6001173aMods
open Go.RowKit Go.Maps

/-! ### plain data -/
structure Ld where
  u : Int
  w : Int
  g : Int
structure Rs where
  w : Int
  t : Int
def Ld.val (l : Ld) : Value := .agg #[.int .i64 l.u, .int .i64 l.w, .int .i64 l.g]
def Rs.val (r : Rs) : Value := .agg #[.int .i64 r.w, .int .i64 r.t]
def Ld.nil : Ld := ⟨0, 0, 0⟩
def Rs.nil : Rs := ⟨0, 0⟩

structure St where
  T : Int
  E : Int
  N : Int
  L : Int
  by_ : List UInt8 → Option Ld
  bn : Nat
  re : List UInt8 → Option Rs
  rn : Nat
  ol : List UInt8 → Option Rs
  on_ : Nat

/-! ### memory -/

/-- From w to w' new blocks have come, and of the old ones only those of S have turned. -/
structure Ch (S : List Nat) (w w' : World) : Prop where
  os : w'.os = w.os
  tape : w'.tape = w.tape
  output : w'.output = w.output
  size : w.heap.size ≤ w'.heap.size
  block : ∀ k, k < w.heap.size → k ∉ S → w'.heap[k]? = w.heap[k]?

theorem Ch.refl (S : List Nat) (w : World) : Ch S w w := ⟨rfl, rfl, rfl, Nat.le_refl _, fun _ _ _ => rfl⟩
theorem Ch.trans {S : List Nat} {a b c : World} (h : Ch S a b) (k : Ch S b c) : Ch S a c :=
  ⟨k.os.trans h.os, k.tape.trans h.tape, k.output.trans h.output, Nat.le_trans h.size k.size, fun i hi hn => (k.block i (Nat.lt_of_lt_of_le hi h.size) hn).trans (h.block i hi hn)⟩
theorem Ch.mono {S S' : List Nat} {a b : World} (h : Ch S a b) (hs : ∀ k ∈ S, k ∈ S') : Ch S' a b :=
  ⟨h.os, h.tape, h.output, h.size, fun i hi hn => h.block i hi (fun e => hn (hs i e))⟩
/-- A second step that turns blocks of S and blocks that are new since a. -/
theorem Ch.andThen {S S' : List Nat} {a b c : World} (h : Ch S a b) (k : Ch S' b c) (hs : ∀ i ∈ S', i ∈ S ∨ a.heap.size ≤ i) : Ch S a c :=
  ⟨k.os.trans h.os, k.tape.trans h.tape, k.output.trans h.output, Nat.le_trans h.size k.size, fun i hi hn =>
    (k.block i (Nat.lt_of_lt_of_le hi h.size) (fun e => by
      rcases hs i e with h1 | h1
      · exact hn h1
      · omega)).trans (h.block i hi hn)⟩
theorem Ch.of_below {w w' : World} (h : Below w.heap.size w w') (S : List Nat) : Ch S w w' := ⟨h.os, h.tape, h.output, h.size, fun k hk _ => h.block k hk⟩
theorem Ch.below {B : Nat} {S : List Nat} {w w' : World} (h : Ch S w w') (hB : B ≤ w.heap.size) (hS : ∀ k ∈ S, B ≤ k) : Below B w w' :=
  ⟨h.os, h.tape, h.output, h.size, fun k hk => h.block k (by omega) (fun e => by have := hS k e; omega)⟩
theorem Ch.of_grown {w w' : World} {b : Nat} (h : w.grownBy w' (some b)) : Ch [b] w w' := ⟨h.os, h.tape, h.output, h.size, fun k hk hn => h.block k hk (fun e => hn (by cases e; simp))⟩
theorem Ch.of_grown_none {w w' : World} (h : w.grownBy w' none) (S : List Nat) : Ch S w w' := ⟨h.os, h.tape, h.output, h.size, fun k hk _ => h.block k hk (by simp)⟩
theorem Ch.of_turned {w w' : World} {b : Nat} (h : w.mapTurned w' b) : Ch [b] w w' := Ch.of_grown h.grown
theorem Ch.alloc (w : World) (o : Obj) (S : List Nat) : Ch S w (w.alloc o) := Ch.of_below ((Below.refl _ _).alloc (Nat.le_refl _) o) S
theorem Ch.setCell (w : World) (p : Addr) (v : Value) : Ch [p.block] w (w.setCell p v) :=
  ⟨rfl, rfl, rfl, by simp [World.setCell], fun k _ hn => Below.heap_setCell _ _ _ _ (by simpa using hn)⟩
theorem Ch.drewN (w : World) (n : Nat) (S : List Nat) : Ch S w (w.drewN n) := ⟨rfl, rfl, rfl, Nat.le_refl _, fun _ _ _ => rfl⟩
theorem Ch.drew (w : World) (S : List Nat) : Ch S w w.drew := ⟨rfl, rfl, rfl, Nat.le_refl _, fun _ _ _ => rfl⟩

theorem Ch.cell {S : List Nat} {w w' : World} (h : Ch S w w') {p : Addr} {v : Value} (hc : w.cell? p = some v) (hn : p.block ∉ S) : w'.cell? p = some v :=
  (World.cell?_of_block (h.block p.block (World.block_lt_of_cell? w p hc) hn)).trans hc

theorem below_drewN {B : Nat} {a w : World} (h : Below B a w) (n : Nat) : Below B a (w.drewN n) := ⟨h.os, h.tape, h.output, h.size, h.block⟩

/-- The struct's block. -/
def SBlk (w : World) (sb : Nat) (T E N L : Int) (bm br bo : Nat) : Prop :=
  w.heap[sb]? = some (.cells #[.int .i64 T, .int .i64 E, .int .i64 N, .map (some bm), .int .i64 L, .map (some br), .map (some bo)] 52 (0, 0))

theorem cell_of_row {w : World} {b : Nat} {c : Array Value} {t : TypeId} {fr : Nat × Nat} (h : w.heap[b]? = some (.cells c t fr)) (i : Nat) : w.cell? ⟨b, i, none⟩ = c[i]? := by
  simp [World.cell?, h]
theorem free_of_row {w : World} {b : Nat} {c : Array Value} {t : TypeId} (h : w.heap[b]? = some (.cells c t (0, 0))) (i : Nat) : w.frozen? ⟨b, i, none⟩ = false := by
  simp [World.frozen?, h]
theorem row_setCell {w : World} {b : Nat} {c : Array Value} {t : TypeId} {fr : Nat × Nat} (h : w.heap[b]? = some (.cells c t fr)) (i : Nat) (v : Value) : (w.setCell ⟨b, i, none⟩ v).heap[b]? = some (.cells (c.setIfInBounds i v) t fr) := by
  simp [World.setCell, Array.getElem?_modify, h]

section
variable {w : World} {sb bm br bo : Nat} {T E N L : Int}
theorem SBlk.c0 (h : SBlk w sb T E N L bm br bo) : w.cell? ⟨sb, 0, none⟩ = some (.int .i64 T) := cell_of_row h 0
theorem SBlk.c1 (h : SBlk w sb T E N L bm br bo) : w.cell? ⟨sb, 1, none⟩ = some (.int .i64 E) := cell_of_row h 1
theorem SBlk.c2 (h : SBlk w sb T E N L bm br bo) : w.cell? ⟨sb, 2, none⟩ = some (.int .i64 N) := cell_of_row h 2
theorem SBlk.c3 (h : SBlk w sb T E N L bm br bo) : w.cell? ⟨sb, 3, none⟩ = some (.map (some bm)) := cell_of_row h 3
theorem SBlk.c4 (h : SBlk w sb T E N L bm br bo) : w.cell? ⟨sb, 4, none⟩ = some (.int .i64 L) := cell_of_row h 4
theorem SBlk.c5 (h : SBlk w sb T E N L bm br bo) : w.cell? ⟨sb, 5, none⟩ = some (.map (some br)) := cell_of_row h 5
theorem SBlk.c6 (h : SBlk w sb T E N L bm br bo) : w.cell? ⟨sb, 6, none⟩ = some (.map (some bo)) := cell_of_row h 6
theorem SBlk.fr (h : SBlk w sb T E N L bm br bo) (i : Nat) : w.frozen? ⟨sb, i, none⟩ = false := free_of_row h i
theorem SBlk.lt (h : SBlk w sb T E N L bm br bo) : sb < w.heap.size := (Array.getElem?_eq_some_iff.1 h).1
theorem SBlk.of_block {w' : World} (h : SBlk w sb T E N L bm br bo) (hb : w'.heap[sb]? = w.heap[sb]?) : SBlk w' sb T E N L bm br bo := hb.trans h
theorem SBlk.setN (h : SBlk w sb T E N L bm br bo) (n : Int) : SBlk (w.setCell ⟨sb, 2, none⟩ (.int .i64 n)) sb T E n L bm br bo := (row_setCell h 2 _).trans rfl
theorem SBlk.setL (h : SBlk w sb T E N L bm br bo) (n : Int) : SBlk (w.setCell ⟨sb, 4, none⟩ (.int .i64 n)) sb T E N n bm br bo := (row_setCell h 4 _).trans rfl
theorem SBlk.setM (h : SBlk w sb T E N L bm br bo) (n : Nat) : SBlk (w.setCell ⟨sb, 3, none⟩ (.map (some n))) sb T E N L n br bo := (row_setCell h 3 _).trans rfl
theorem SBlk.setR (h : SBlk w sb T E N L bm br bo) (n : Nat) : SBlk (w.setCell ⟨sb, 5, none⟩ (.map (some n))) sb T E N L bm n bo := (row_setCell h 5 _).trans rfl
theorem SBlk.setO (h : SBlk w sb T E N L bm br bo) (n : Nat) : SBlk (w.setCell ⟨sb, 6, none⟩ (.map (some n))) sb T E N L bm br n := (row_setCell h 6 _).trans rfl
end

/-- The counts s lie in memory behind the pointer to block sb. -/
structure SH (w : World) (sb bm br bo : Nat) (s : St) : Prop where
  blk : SBlk w sb s.T s.E s.N s.L bm br bo
  m : MapV w bm Ld.val s.by_ s.bn
  r : MapV w br Rs.val s.re s.rn
  o : MapV w bo Rs.val s.ol s.on_
  mr : bm ≠ br
  mo : bm ≠ bo
  ro : br ≠ bo

theorem SH.kept {S : List Nat} {w w' : World} {sb bm br bo : Nat} {s : St} (h : SH w sb bm br bo s) (hc : Ch S w w') (h0 : sb ∉ S) (h1 : bm ∉ S) (h2 : br ∉ S) (h3 : bo ∉ S) : SH w' sb bm br bo s :=
  ⟨h.blk.of_block (hc.block _ h.blk.lt h0), h.m.of_block (hc.block _ h.m.lt h1), h.r.of_block (hc.block _ h.r.lt h2), h.o.of_block (hc.block _ h.o.lt h3), h.mr, h.mo, h.ro⟩
theorem SH.later {w w' : World} {sb bm br bo : Nat} {s : St} (h : SH w sb bm br bo s) (hc : Below w.heap.size w w') : SH w' sb bm br bo s :=
  h.kept (Ch.of_below hc []) (by simp) (by simp) (by simp) (by simp)
theorem SH.sm {w : World} {sb bm br bo : Nat} {s : St} (h : SH w sb bm br bo s) : sb ≠ bm := h.m.not_cells h.blk
theorem SH.sr {w : World} {sb bm br bo : Nat} {s : St} (h : SH w sb bm br bo s) : sb ≠ br := h.r.not_cells h.blk
theorem SH.so {w : World} {sb bm br bo : Nat} {s : St} (h : SH w sb bm br bo s) : sb ≠ bo := h.o.not_cells h.blk

/-! ### the plain functions -/
def St.free (s : St) : Int := max 0 (s.T - s.N)
def St.share (s : St) (n : Int) : Int := s.T / ((s.bn : Int) + (if n = 0 then 1 else 0) + 1)
def roomP (free share E n win : Int) : Int :=
  max 0 (min (E - n) (if n < max 1 (min share win) then max (free - share) (min free (max 1 (min share win) - n)) else free - share))
def St.roomW (s : St) (n win : Int) : Int := roomP s.free (s.share n) s.E n win
def St.rest (s : St) (k : List UInt8) : Rs := match s.re k with
  | some r => r
  | none => match s.ol k with
    | some r => r
    | none => Rs.nil
def St.load (s : St) (k : List UInt8) : Ld := match s.by_ k with
  | some l => l
  | none => if s.L ≤ (s.rest k).t then ⟨0, (s.rest k).w, 0⟩ else ⟨0, 0, (s.rest k).w⟩
def St.room (s : St) (k : List UInt8) : Int := s.roomW (s.load k).u (s.load k).w

/-! ### bounds by which nothing wraps -/
def Ld.Ok (l : Ld) : Prop := 0 ≤ l.u ∧ l.u ≤ 1000000 ∧ 0 ≤ l.w ∧ l.w ≤ 1000000 ∧ 0 ≤ l.g ∧ l.g ≤ 1000000
def Rs.Ok (r : Rs) : Prop := 0 ≤ r.w ∧ r.w ≤ 1000000 ∧ -1 ≤ r.t ∧ r.t ≤ 1000000
structure St.Ok (s : St) : Prop where
  T0 : 0 ≤ s.T
  T1 : s.T ≤ 65536
  E0 : 0 ≤ s.E
  E1 : s.E ≤ 65536
  N0 : -1000000 ≤ s.N
  N1 : s.N ≤ 1000000
  L0 : 0 ≤ s.L
  L1 : s.L ≤ 1000000
  bn : s.bn ≤ 1000000
  rn : s.rn ≤ 1000000
  on_ : s.on_ ≤ 1000000
  by_ : ∀ k l, s.by_ k = some l → l.Ok
  re : ∀ k r, s.re k = some r → r.Ok
  ol : ∀ k r, s.ol k = some r → r.Ok

theorem St.Ok.rest {s : St} (h : s.Ok) (k : List UInt8) : (s.rest k).Ok := by
  unfold St.rest
  cases e : s.re k with
  | some r => exact h.re k r e
  | none =>
    cases e' : s.ol k with
    | some r => exact h.ol k r e'
    | none => exact ⟨by decide, by decide, by decide, by decide⟩

theorem St.Ok.load {s : St} (h : s.Ok) (k : List UInt8) : (s.load k).Ok := by
  unfold St.load
  cases e : s.by_ k with
  | some l => exact h.by_ k l e
  | none =>
    have := h.rest k
    simp only []
    unfold Rs.Ok at this
    split <;> refine ⟨?_, ?_, ?_, ?_, ?_, ?_⟩ <;> simp <;> omega

theorem ret_int {k : IntKind} {a b : Int} (h : a = b) : Ending.returned (.int k a) = .returned (.int k b) := by rw [h]

end Go.Proofs.Qxb6001173aMods
