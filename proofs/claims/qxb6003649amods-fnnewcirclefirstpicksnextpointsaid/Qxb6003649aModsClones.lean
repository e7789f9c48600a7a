/- Walks: the four clones. -/
import Derived.Test.Qxb6003649aModsPure
import Derived.Test.Qxb6003649aModsRows
import Derived.WalkKit
import Derived.ProofKit
import Derived.OpenShut
import Derived.Below
import Derived.Deep.OwnRows
import Derived.Lib.SliceRun
import Derived.Laws.CopyOwn
namespace Go.Proofs.Qxb6003649aMods
open Go.RowKit
set_option linter.unusedVariables false

/-- A slice that can be read: its n elements are f. -/
def Rd (w : World) (a : Option Addr) (n : Nat) (f : Nat → Value) : Prop := 0 < n → ∃ x, a = some x ∧ ∀ i, i < n → w.cell? (x.add i) = some (f i)

/-- A slice that lies alone in block b, or is empty. -/
def Own (w : World) (b : Nat) (t : TypeId) (a : Option Addr) (n : Nat) (f : Nat → Value) : Prop := 0 < n → a = some ⟨b, 0, none⟩ ∧ w.rowIs b t n f

theorem copy_made {P : Program} (w : World) (dT e : TypeId) (z : Value) (x : Addr) (n cap : Nat) (f : Nat → Value) (hu : P.underlying dT = some (.slice e)) (hs : (P.info? e).map (·.size) = some 1)
    (h1 : ∀ i, (f i).oneCell' = true) (hx : ∀ i, i < n → w.cell? (x.add i) = some (f i)) :
    ∃ w2, (Builtin.copy_ #[dT, dT] 3 #[.slice (some ⟨w.heap.size, 0, none⟩) n n, .slice (some x) n cap]).run P (w.alloc (.cells (madeCells #[z] n) e)) = .ok (.int .i64 n) w2 ∧ Below w.heap.size w w2 ∧ w2.rowIs w.heap.size e n f := by
  have hg : (w.alloc (.cells (madeCells #[z] n) e)).heap[w.heap.size]? = some (.cells (madeCells #[z] n) e (0, 0)) := Deep.blk_alloc_new _ _
  have hrun := run_copy_row (P := P) (w.alloc (.cells (madeCells #[z] n) e)) dT dT 3 e w.heap.size 0 n n x n cap (madeCells #[z] n) e ((List.range n).map f) hu hs hg (by simp) ?_ (by simp [size_madeCells]) ?_
  · refine ⟨_, hrun.trans (by rw [List.length_map, List.length_range]; rfl), below_setRow ((Below.refl _ _).alloc (Nat.le_refl _) _) (Nat.le_refl _) _, ?_⟩
    refine ⟨_, setRow_heap _ _ _ _ _ _ hg, ?_, fun i hi => ?_⟩
    · simp [size_madeCells]
    · simp [List.getElem?_append, hi]
  · intro j v hj
    have hjn : j < n := by
      have := (List.getElem?_eq_some_iff.1 hj).1
      simpa using this
    have e : v = f j := by simpa [hjn] using hj.symm
    subst e
    exact (World.cell?_alloc_lt w _ _ (World.block_lt_of_cell? w (x.add j) (hx j hjn))).trans (hx j hjn)
  · intro v hv
    obtain ⟨i, _, rfl⟩ := List.mem_map.1 hv
    exact h1 i

theorem info35 : (Trym.prog.info? 35).map (fun i => (i.zero, i.size, i.bytes)) = some (some (.int .u64 0), 1, 8) := by kernel_rfl
theorem size35 : (Trym.prog.info? 35).map (·.size) = some 1 := by kernel_rfl

theorem clone15_nil (w : World) : Calls Trym.prog 15 #[.slice none 0 0] w fun e w' => e = .returned (.slice none 0 0) ∧ w' = w := by
  have hnil := fun w => Lib.run_eql_slice_nil (P := Trym.prog) w 33 35 none 0 0 0 0 Trym.underlying33
  go_enter Trym.func15, Trym.ntmps15
  go_wp2
  go_ret
  exact ⟨rfl, rfl⟩

set_option maxHeartbeats 400000 in
theorem clone15_some (w : World) (x : Addr) (n cap : Nat) (f : Nat → Value) (h1 : ∀ i, (f i).oneCell' = true) (hn : n ≤ 1048576) (hx : ∀ i, i < n → w.cell? (x.add i) = some (f i)) :
    Calls Trym.prog 15 #[.slice (some x) n cap] w fun e w' => e = .returned (.slice (some ⟨w.heap.size, 0, none⟩) n n) ∧ Below w.heap.size w w' ∧ w'.rowIs w.heap.size 35 n f := by
  have hmk := run_make_row' (P := Trym.prog) 33 35 (.int .u64 0) 8 Trym.underlying33 info35 rfl .i64 .i64 n (by omega) (by omega)
  have hnil := fun w => Lib.run_eql_slice_nil (P := Trym.prog) w 33 35 (some x) n cap 0 0 Trym.underlying33
  obtain ⟨w2, hcp, hb2, hr2⟩ := copy_made (P := Trym.prog) w 33 35 (.int .u64 0) x n cap f Trym.underlying33 size35 h1 hx
  have HB : Hid (Below w.heap.size w w2 ∧ w2.rowIs w.heap.size 35 n f) := ⟨hb2, hr2⟩
  clear hb2 hr2
  go_enter Trym.func15, Trym.ntmps15
  go_wp2
  go_ret
  exact ⟨rfl, HB.out⟩

theorem clone15_any (w : World) (a : Option Addr) (n cap : Nat) (f : Nat → Value) (h1 : ∀ i, (f i).oneCell' = true) (hn : n ≤ 1048576) (hnone : a = none → n = 0 ∧ cap = 0) (hx : Rd w a n f) :
    Calls Trym.prog 15 #[.slice a n cap] w fun e w' => ∃ a', e = .returned (.slice a' n n) ∧ Below w.heap.size w w' ∧ Own w' w.heap.size 35 a' n f ∧ (a' = none ↔ a = none) := by
  cases a with
  | none =>
    obtain ⟨rfl, rfl⟩ := hnone rfl
    refine (clone15_nil w).mono ?_
    rintro e w' ⟨rfl, rfl⟩
    exact ⟨_, rfl, Below.refl _ _, fun h => by omega, Iff.rfl⟩
  | some x =>
    refine (clone15_some w x n cap f h1 hn (fun i hi => by obtain ⟨y, hy, h⟩ := hx (by omega); cases hy; exact h i hi)).mono ?_
    rintro e w' ⟨rfl, hb, hr⟩
    exact ⟨_, rfl, hb, fun h => ⟨rfl, hr⟩, by simp⟩

theorem info42 : (Trym.prog.info? 42).map (fun i => (i.zero, i.size, i.bytes)) = some (some (.int .u16 0), 1, 2) := by kernel_rfl
theorem size42 : (Trym.prog.info? 42).map (·.size) = some 1 := by kernel_rfl

theorem clone10_nil (w : World) : Calls Trym.prog 10 #[.slice none 0 0] w fun e w' => e = .returned (.slice none 0 0) ∧ w' = w := by
  have hnil := fun w => Lib.run_eql_slice_nil (P := Trym.prog) w 23 42 none 0 0 0 0 Trym.underlying23
  go_enter Trym.func10, Trym.ntmps10
  go_wp2
  go_ret
  exact ⟨rfl, rfl⟩

set_option maxHeartbeats 400000 in
theorem clone10_some (w : World) (x : Addr) (n cap : Nat) (f : Nat → Value) (h1 : ∀ i, (f i).oneCell' = true) (hn : n ≤ 1048576) (hx : ∀ i, i < n → w.cell? (x.add i) = some (f i)) :
    Calls Trym.prog 10 #[.slice (some x) n cap] w fun e w' => e = .returned (.slice (some ⟨w.heap.size, 0, none⟩) n n) ∧ Below w.heap.size w w' ∧ w'.rowIs w.heap.size 42 n f := by
  have hmk := run_make_row' (P := Trym.prog) 23 42 (.int .u16 0) 2 Trym.underlying23 info42 rfl .i64 .i64 n (by omega) (by omega)
  have hnil := fun w => Lib.run_eql_slice_nil (P := Trym.prog) w 23 42 (some x) n cap 0 0 Trym.underlying23
  obtain ⟨w2, hcp, hb2, hr2⟩ := copy_made (P := Trym.prog) w 23 42 (.int .u16 0) x n cap f Trym.underlying23 size42 h1 hx
  have HB : Hid (Below w.heap.size w w2 ∧ w2.rowIs w.heap.size 42 n f) := ⟨hb2, hr2⟩
  clear hb2 hr2
  go_enter Trym.func10, Trym.ntmps10
  go_wp2
  go_ret
  exact ⟨rfl, HB.out⟩

theorem clone10_any (w : World) (a : Option Addr) (n cap : Nat) (f : Nat → Value) (h1 : ∀ i, (f i).oneCell' = true) (hn : n ≤ 1048576) (hnone : a = none → n = 0 ∧ cap = 0) (hx : Rd w a n f) :
    Calls Trym.prog 10 #[.slice a n cap] w fun e w' => ∃ a', e = .returned (.slice a' n n) ∧ Below w.heap.size w w' ∧ Own w' w.heap.size 42 a' n f ∧ (a' = none ↔ a = none) := by
  cases a with
  | none =>
    obtain ⟨rfl, rfl⟩ := hnone rfl
    refine (clone10_nil w).mono ?_
    rintro e w' ⟨rfl, rfl⟩
    exact ⟨_, rfl, Below.refl _ _, fun h => by omega, Iff.rfl⟩
  | some x =>
    refine (clone10_some w x n cap f h1 hn (fun i hi => by obtain ⟨y, hy, h⟩ := hx (by omega); cases hy; exact h i hi)).mono ?_
    rintro e w' ⟨rfl, hb, hr⟩
    exact ⟨_, rfl, hb, fun h => ⟨rfl, hr⟩, by simp⟩

theorem info25 : (Trym.prog.info? 25).map (fun i => (i.zero, i.size, i.bytes)) = some (some (.int .u32 0), 1, 4) := by kernel_rfl
theorem size25 : (Trym.prog.info? 25).map (·.size) = some 1 := by kernel_rfl

theorem clone9_nil (w : World) : Calls Trym.prog 9 #[.slice none 0 0] w fun e w' => e = .returned (.slice none 0 0) ∧ w' = w := by
  have hnil := fun w => Lib.run_eql_slice_nil (P := Trym.prog) w 22 25 none 0 0 0 0 Trym.underlying22
  go_enter Trym.func9, Trym.ntmps9
  go_wp2
  go_ret
  exact ⟨rfl, rfl⟩

set_option maxHeartbeats 400000 in
theorem clone9_some (w : World) (x : Addr) (n cap : Nat) (f : Nat → Value) (h1 : ∀ i, (f i).oneCell' = true) (hn : n ≤ 1048576) (hx : ∀ i, i < n → w.cell? (x.add i) = some (f i)) :
    Calls Trym.prog 9 #[.slice (some x) n cap] w fun e w' => e = .returned (.slice (some ⟨w.heap.size, 0, none⟩) n n) ∧ Below w.heap.size w w' ∧ w'.rowIs w.heap.size 25 n f := by
  have hmk := run_make_row' (P := Trym.prog) 22 25 (.int .u32 0) 4 Trym.underlying22 info25 rfl .i64 .i64 n (by omega) (by omega)
  have hnil := fun w => Lib.run_eql_slice_nil (P := Trym.prog) w 22 25 (some x) n cap 0 0 Trym.underlying22
  obtain ⟨w2, hcp, hb2, hr2⟩ := copy_made (P := Trym.prog) w 22 25 (.int .u32 0) x n cap f Trym.underlying22 size25 h1 hx
  have HB : Hid (Below w.heap.size w w2 ∧ w2.rowIs w.heap.size 25 n f) := ⟨hb2, hr2⟩
  clear hb2 hr2
  go_enter Trym.func9, Trym.ntmps9
  go_wp2
  go_ret
  exact ⟨rfl, HB.out⟩

theorem clone9_any (w : World) (a : Option Addr) (n cap : Nat) (f : Nat → Value) (h1 : ∀ i, (f i).oneCell' = true) (hn : n ≤ 1048576) (hnone : a = none → n = 0 ∧ cap = 0) (hx : Rd w a n f) :
    Calls Trym.prog 9 #[.slice a n cap] w fun e w' => ∃ a', e = .returned (.slice a' n n) ∧ Below w.heap.size w w' ∧ Own w' w.heap.size 25 a' n f ∧ (a' = none ↔ a = none) := by
  cases a with
  | none =>
    obtain ⟨rfl, rfl⟩ := hnone rfl
    refine (clone9_nil w).mono ?_
    rintro e w' ⟨rfl, rfl⟩
    exact ⟨_, rfl, Below.refl _ _, fun h => by omega, Iff.rfl⟩
  | some x =>
    refine (clone9_some w x n cap f h1 hn (fun i hi => by obtain ⟨y, hy, h⟩ := hx (by omega); cases hy; exact h i hi)).mono ?_
    rintro e w' ⟨rfl, hb, hr⟩
    exact ⟨_, rfl, hb, fun h => ⟨rfl, hr⟩, by simp⟩

theorem info9 : (Trym.prog.info? 9).map (fun i => (i.zero, i.size, i.bytes)) = some (some (.string ByteArray.empty), 1, 16) := by kernel_rfl
theorem size9 : (Trym.prog.info? 9).map (·.size) = some 1 := by kernel_rfl

theorem clone11_nil (w : World) : Calls Trym.prog 11 #[.slice none 0 0] w fun e w' => e = .returned (.slice none 0 0) ∧ w' = w := by
  have hnil := fun w => Lib.run_eql_slice_nil (P := Trym.prog) w 24 9 none 0 0 0 0 Trym.underlying24
  go_enter Trym.func11, Trym.ntmps11
  go_wp2
  go_ret
  exact ⟨rfl, rfl⟩

set_option maxHeartbeats 400000 in
theorem clone11_some (w : World) (x : Addr) (n cap : Nat) (f : Nat → Value) (h1 : ∀ i, (f i).oneCell' = true) (hn : n ≤ 1048576) (hx : ∀ i, i < n → w.cell? (x.add i) = some (f i)) :
    Calls Trym.prog 11 #[.slice (some x) n cap] w fun e w' => e = .returned (.slice (some ⟨w.heap.size, 0, none⟩) n n) ∧ Below w.heap.size w w' ∧ w'.rowIs w.heap.size 9 n f := by
  have hmk := run_make_row' (P := Trym.prog) 24 9 (.string ByteArray.empty) 16 Trym.underlying24 info9 rfl .i64 .i64 n (by omega) (by omega)
  have hnil := fun w => Lib.run_eql_slice_nil (P := Trym.prog) w 24 9 (some x) n cap 0 0 Trym.underlying24
  obtain ⟨w2, hcp, hb2, hr2⟩ := copy_made (P := Trym.prog) w 24 9 (.string ByteArray.empty) x n cap f Trym.underlying24 size9 h1 hx
  have HB : Hid (Below w.heap.size w w2 ∧ w2.rowIs w.heap.size 9 n f) := ⟨hb2, hr2⟩
  clear hb2 hr2
  go_enter Trym.func11, Trym.ntmps11
  go_wp2
  go_ret
  exact ⟨rfl, HB.out⟩

theorem clone11_any (w : World) (a : Option Addr) (n cap : Nat) (f : Nat → Value) (h1 : ∀ i, (f i).oneCell' = true) (hn : n ≤ 1048576) (hnone : a = none → n = 0 ∧ cap = 0) (hx : Rd w a n f) :
    Calls Trym.prog 11 #[.slice a n cap] w fun e w' => ∃ a', e = .returned (.slice a' n n) ∧ Below w.heap.size w w' ∧ Own w' w.heap.size 9 a' n f ∧ (a' = none ↔ a = none) := by
  cases a with
  | none =>
    obtain ⟨rfl, rfl⟩ := hnone rfl
    refine (clone11_nil w).mono ?_
    rintro e w' ⟨rfl, rfl⟩
    exact ⟨_, rfl, Below.refl _ _, fun h => by omega, Iff.rfl⟩
  | some x =>
    refine (clone11_some w x n cap f h1 hn (fun i hi => by obtain ⟨y, hy, h⟩ := hx (by omega); cases hy; exact h i hi)).mono ?_
    rintro e w' ⟨rfl, hb, hr⟩
    exact ⟨_, rfl, hb, fun h => ⟨rfl, hr⟩, by simp⟩

end Go.Proofs.Qxb6003649aMods
