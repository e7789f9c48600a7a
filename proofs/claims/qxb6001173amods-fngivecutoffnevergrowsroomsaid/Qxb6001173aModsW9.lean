/- Walks: underways. -/
import Derived.Test.Qxb6001173aModsW8
namespace Go.Proofs.Qxb6001173aMods
open Go.RowKit Go.Maps
set_option linter.unusedVariables false
attribute [local go_sem] cell_alloc_map frozen_alloc_map

def kk (i : Nat) : List UInt8 := (ka i).data.toList
theorem ka_size (i : Nat) : (ka i).size ≤ maxLen := by
  unfold ka
  split
  · have : fresh.size = 5 := rfl
    rw [this]; unfold maxLen; omega
  · exact kn_size i
def undVal (s : St) : Value := .agg #[.int .i64 (s.und (kk 0)), .int .i64 (s.und (kk 1)), .int .i64 (s.und (kk 2)), .int .i64 (s.und (kk 3)), .int .i64 (s.und (kk 4)), .int .i64 (s.und (kk 5)), .int .i64 (s.und (kk 6)), .int .i64 (s.und (kk 7)), .int .i64 (s.und (kk 8))]

theorem row9 {w : World} {b : Nat} {t : TypeId} {f : Nat → Value} (h : w.rowIs b t 9 f) : w.heap[b]? = some (.cells #[f 0, f 1, f 2, f 3, f 4, f 5, f 6, f 7, f 8] t (0, 0)) := by
  obtain ⟨c, hb, hs, hc⟩ := h
  rw [hb]
  congr 2
  apply Array.ext_getElem?
  intro i
  rcases (show i = 0 ∨ i = 1 ∨ i = 2 ∨ i = 3 ∨ i = 4 ∨ i = 5 ∨ i = 6 ∨ i = 7 ∨ i = 8 ∨ 9 ≤ i by omega) with rfl | rfl | rfl | rfl | rfl | rfl | rfl | rfl | rfl | hi
  iterate 9 (rw [hc _ (by omega)]; rfl)
  rw [Array.getElem?_eq_none (by omega), Array.getElem?_eq_none (by simpa using hi)]

theorem size33 : (Trym.prog.info? 33).map (·.size) = some 9 := by kernel_rfl

set_option maxHeartbeats 400000 in
theorem underways_any {w : World} {sb bm br bo : Nat} {s : St} (h : SH w sb bm br bo s) :
    Calls Trym.prog 20 #[.pointer (some ⟨sb, 0, none⟩)] w fun e w' => e = .returned (undVal s) ∧ Below w.heap.size w w' := by
  go_enter Trym.func20, Trym.ntmps20
  go_wp2
  go_loopw [4] (fun i wr => ∃ k : Nat, k ≤ 9 ∧ i = .int .i64 k ∧ wr.rowIs w.heap.size 33 9 (fun _ => .int .i64 0) ∧ wr.rowIs (w.heap.size + 1) 33 9 (fun j => if j < k then .int .i64 (s.und (kk j)) else .int .i64 0) ∧ Below w.heap.size w wr) (fun i _ => 9 - (intOf i).toNat)
  case atStart =>
    refine ⟨0, Nat.zero_le _, rfl, ?_, ?_, ((Below.refl _ _).alloc (Nat.le_refl _) _).alloc (by simp) _⟩
    · exact (World.rowIs_alloc w _ 33 (fun _ => .int .i64 0) (fun i hi => by
        have : i < 9 := hi
        rcases (show i = 0 ∨ i = 1 ∨ i = 2 ∨ i = 3 ∨ i = 4 ∨ i = 5 ∨ i = 6 ∨ i = 7 ∨ i = 8 by omega) with rfl | rfl | rfl | rfl | rfl | rfl | rfl | rfl | rfl <;> rfl)).alloc _
    · have := (World.rowIs_alloc (w.alloc (Obj.cells #[.int .i64 0, .int .i64 0, .int .i64 0, .int .i64 0, .int .i64 0, .int .i64 0, .int .i64 0, .int .i64 0, .int .i64 0] 33)) #[.int .i64 0, .int .i64 0, .int .i64 0, .int .i64 0, .int .i64 0, .int .i64 0, .int .i64 0, .int .i64 0, .int .i64 0] 33 (fun j => if j < 0 then .int .i64 (s.und (kk j)) else .int .i64 0) (fun i hi => by
        have : i < 9 := hi
        rcases (show i = 0 ∨ i = 1 ∨ i = 2 ∨ i = 3 ∨ i = 4 ∨ i = 5 ∨ i = 6 ∨ i = 7 ∨ i = 8 by omega) with rfl | rfl | rfl | rfl | rfl | rfl | rfl | rfl | rfl <;> rfl))
      simpa using this
  case round =>
    obtain ⟨k, hk, rfl, hz, hrow, hbel⟩ := hrel
    by_cases hlt : k < 9
    · have hle : (k : Int) ≤ 8 := by omega
      have hlb : w.heap.size + 1 < wr.heap.size := hrow.lt
      go_wp2_with fail
      refine (keyAt_any k (by omega) wr).mono ?_
      rintro e w1 ⟨rfl, hb1⟩
      have hrow1 := hrow.of_block (hb1.block _ hrow.lt)
      have hz1 := hz.of_block (hb1.block _ hz.lt)
      have hbel1 : Below w.heap.size w w1 := hbel.trans (hb1.mono hbel.size)
      have hS1 := h.later hbel1
      go_wp2_with fail
      refine (zzUnder_any hS1 (ka k) (ka_size k)).mono ?_
      rintro e w2 ⟨rfl, rfl⟩
      have hck := hrow1.cell hlt
      have hfr := hrow1.frozen k
      have hkk : (ka k).data.toList = kk k := rfl
      rw [hkk]
      clear hkk
      go_wp2
      go_roundw
      case rel =>
        refine ⟨k + 1, by omega, by go_num, hz1.setOther (by simp) _, (hrow1.set k _).congr (fun j hj => ?_), hbel1.setCell (by simp) _⟩
        by_cases e : j = k
        · subst e; simp
        · rw [if_neg e]
          by_cases e2 : j < k
          · rw [if_pos e2, if_pos (by omega)]
          · rw [if_neg e2, if_neg (by omega)]
      case measure => simp [intOf]; omega
    · have hk9 : k = 9 := by omega
      subst hk9
      have hblk := row9 hrow
      simp only [Nat.reduceLT, if_true] at hblk
      have hblz := row9 hz
      have y0 : wr.cell? ⟨w.heap.size, 0, none⟩ = some (.int .i64 0) := hz.cell (by omega)
      have y1 : wr.cell? ⟨w.heap.size, 1, none⟩ = some (.int .i64 0) := hz.cell (by omega)
      have y2 : wr.cell? ⟨w.heap.size, 2, none⟩ = some (.int .i64 0) := hz.cell (by omega)
      have y3 : wr.cell? ⟨w.heap.size, 3, none⟩ = some (.int .i64 0) := hz.cell (by omega)
      have y4 : wr.cell? ⟨w.heap.size, 4, none⟩ = some (.int .i64 0) := hz.cell (by omega)
      have y5 : wr.cell? ⟨w.heap.size, 5, none⟩ = some (.int .i64 0) := hz.cell (by omega)
      have y6 : wr.cell? ⟨w.heap.size, 6, none⟩ = some (.int .i64 0) := hz.cell (by omega)
      have y7 : wr.cell? ⟨w.heap.size, 7, none⟩ = some (.int .i64 0) := hz.cell (by omega)
      have y8 : wr.cell? ⟨w.heap.size, 8, none⟩ = some (.int .i64 0) := hz.cell (by omega)
      have hfz := fun i => hz.frozen i
      go_wp2_with (refine wpList_load_row rfl 33 _ rfl (w.heap.size + 1) rfl 33 _ (0, 0) _ hblk Trym.underlying33 rfl size33 ?_)
      have hfin := (row_setCell (row_setCell (row_setCell (row_setCell (row_setCell (row_setCell (row_setCell (row_setCell (row_setCell hblz 0 (.int .i64 (s.und (kk 0)))) 1 (.int .i64 (s.und (kk 1)))) 2 (.int .i64 (s.und (kk 2)))) 3 (.int .i64 (s.und (kk 3)))) 4 (.int .i64 (s.und (kk 4)))) 5 (.int .i64 (s.und (kk 5)))) 6 (.int .i64 (s.und (kk 6)))) 7 (.int .i64 (s.und (kk 7)))) 8 (.int .i64 (s.und (kk 8))))
      simp only [List.setIfInBounds_toArray, List.set_cons_zero, List.set_cons_succ] at hfin
      exact bodyPost_ret (v := undVal s) (results_cell_row rfl _ _ w.heap.size 33 #[.int .i64 (s.und (kk 0)), .int .i64 (s.und (kk 1)), .int .i64 (s.und (kk 2)), .int .i64 (s.und (kk 3)), .int .i64 (s.und (kk 4)), .int .i64 (s.und (kk 5)), .int .i64 (s.und (kk 6)), .int .i64 (s.und (kk 7)), .int .i64 (s.und (kk 8))] (0, 0) _ rfl hfin Trym.underlying33 rfl size33) rfl ⟨rfl, (((((((((hbel.setCell (p := ⟨w.heap.size, 0, none⟩) (Nat.le_refl _) _).setCell (p := ⟨w.heap.size, 1, none⟩) (Nat.le_refl _) _).setCell (p := ⟨w.heap.size, 2, none⟩) (Nat.le_refl _) _).setCell (p := ⟨w.heap.size, 3, none⟩) (Nat.le_refl _) _).setCell (p := ⟨w.heap.size, 4, none⟩) (Nat.le_refl _) _).setCell (p := ⟨w.heap.size, 5, none⟩) (Nat.le_refl _) _).setCell (p := ⟨w.heap.size, 6, none⟩) (Nat.le_refl _) _).setCell (p := ⟨w.heap.size, 7, none⟩) (Nat.le_refl _) _).setCell (p := ⟨w.heap.size, 8, none⟩) (Nat.le_refl _) _)⟩

/-! ### a comparison of two such arrays -/
theorem cells3 : Trym.prog.cellsOf 3 = 1 := by kernel_rfl
theorem info3 : ∃ i, Trym.prog.info? 3 = some i := by
  have h : (Trym.prog.info? 3).isSome = true := by kernel_rfl
  exact Option.isSome_iff_exists.1 h

theorem part3 (w : World) (xs : Array Value) (j : Nat) (n : Int) (h : xs[j]? = some (.int .i64 n)) : (part 3 xs j).run Trym.prog w = .ok (.int .i64 n) w := by
  unfold part
  simp [h]

theorem eqItems_same (w : World) (d : Nat) (xs : Array Value) : ∀ is : List Nat, (∀ j ∈ is, ∃ n, xs[j]? = some (.int .i64 n)) → (Op.eqItems (d + 1) 3 1 xs xs is).run Trym.prog w = .ok true w
  | [], _ => by simp [Op.eqItems]
  | j :: is, h => by
    obtain ⟨n, hn⟩ := h j (by simp)
    have ih := eqItems_same w d xs is (fun i hi => h i (by simp [hi]))
    simp [Op.eqItems, part3 w xs j n hn, run_equalIn_int w d 3 .i64 .i64 n n Trym.underlying3, ih]

theorem und_same (s : St) (w : World) : (binOp .neq 33 (undVal s) (undVal s)).run Trym.prog w = .ok (.bool false) w := by
  obtain ⟨i, hi⟩ := info3
  unfold undVal
  rw [run_neq_struct, run_equalIn_array w 9999 _ _ Trym.underlying33 hi, cells3, eqItems_same w 9998 _ (List.range 9)]
  · rfl
  · intro j hj
    have hj' : j < 9 := List.mem_range.1 hj
    rcases (show j = 0 ∨ j = 1 ∨ j = 2 ∨ j = 3 ∨ j = 4 ∨ j = 5 ∨ j = 6 ∨ j = 7 ∨ j = 8 by omega) with rfl | rfl | rfl | rfl | rfl | rfl | rfl | rfl | rfl <;> exact ⟨_, rfl⟩
end Go.Proofs.Qxb6001173aMods
