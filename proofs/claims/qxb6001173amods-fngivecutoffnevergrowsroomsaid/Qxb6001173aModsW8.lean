/- Walks: cloneBytes, the script, the start. -/
import Derived.Test.Qxb6001173aModsW7
import Derived.Deep.OwnRows
import Derived.Lib.SliceRun
import Derived.OpenShut
namespace Go.Proofs.Qxb6001173aMods
open Go.RowKit Go.Maps
set_option linter.unusedVariables false
attribute [local go_sem] cell_alloc_map frozen_alloc_map

theorem info5 : (Trym.prog.info? 5).map (fun i => (i.zero, i.size, i.bytes)) = some (some (.int .u8 0), 1, 1) := by kernel_rfl

/-- WHAT THE WALK IS TOLD OF A SLICE OF INTEGERS THAT CAME IN (as the shells have it). -/
def IsRow (k : IntKind) (w : World) (a : Option Addr) (len cap : Nat) (zs : List Int) : Prop :=
  (a = none ∧ len = 0 ∧ cap = 0 ∧ zs = []) ∨
  ∃ x, a = some x ∧ len ≤ cap ∧ cap ≤ maxLen ∧ zs.length = cap ∧ (∀ i, i < zs.length → w.cell? (x.add i) = some (.int k (zs.getD i 0))) ∧ ∀ n ∈ zs, (Lit.int k n).wf = true

/-- A copy of the bytes: nothing, or a row of its own in block b. -/
def IsCopy (w : World) (b : Nat) (a : Option Addr) (len : Nat) : Prop :=
  len = 0 ∨ (a = some ⟨b, 0, none⟩ ∧ ∃ f : Nat → Int, w.rowIs b 5 len (fun i => .int .u8 (f i)) ∧ ∀ i, 0 ≤ f i ∧ f i ≤ 255)

set_option maxHeartbeats 400000 in
theorem clone_nil (w : World) : Calls Trym.prog 11 #[.slice none 0 0] w fun e w' => e = .returned (.slice none 0 0) ∧ w' = w := by
  have hnil := fun w => Lib.run_eql_slice_nil (P := Trym.prog) w 22 5 none 0 0 0 0 Trym.underlying22
  go_enter Trym.func11, Trym.ntmps11
  go_wp2
  go_ret
  exact ⟨rfl, rfl⟩

set_option maxHeartbeats 400000 in
theorem clone_zero (w : World) (x : Addr) (cap : Nat) : Calls Trym.prog 11 #[.slice (some x) 0 cap] w fun e w' => e = .returned (.slice (some ⟨w.heap.size, 0, none⟩) 0 0) ∧ Below w.heap.size w w' := by
  have hmk := run_make_row' (P := Trym.prog) 22 5 (.int .u8 0) 1 Trym.underlying22 info5 rfl .i64 .i64 0 (by omega) (by omega)
  simp only [Int.natCast_zero] at hmk
  have hnil := fun w => Lib.run_eql_slice_nil (P := Trym.prog) w 22 5 (some x) 0 cap 0 0 Trym.underlying22
  go_enter Trym.func11, Trym.ntmps11
  go_wp2
  refine wp_loop_rounds 1 ?_
  rw [rounds_succ]
  go_wp2
  go_ret
  exact ⟨rfl, (Below.refl _ _).alloc (Nat.le_refl _) _⟩

set_option maxHeartbeats 400000 in
theorem clone_some (w : World) (b off len cap : Nat) (f : Nat → Int) (hlen : len ≤ 1048576) (hb : b < w.heap.size) (hc : ∀ i, i < len → w.cell? ⟨b, off + i, none⟩ = some (.int .u8 (f i))) :
    Calls Trym.prog 11 #[.slice (some ⟨b, off, none⟩) len cap] w fun e w' => e = .returned (.slice (some ⟨w.heap.size, 0, none⟩) len len) ∧ Below w.heap.size w w' ∧ w'.rowIs w.heap.size 5 len (fun i => .int .u8 (f i)) := by
  have hmk := run_make_row' (P := Trym.prog) 22 5 (.int .u8 0) 1 Trym.underlying22 info5 rfl .i64 .i64 len (by omega) (by omega)
  have hnil := fun w => Lib.run_eql_slice_nil (P := Trym.prog) w 22 5 (some ⟨b, off, none⟩) len cap 0 0 Trym.underlying22
  go_enter Trym.func11, Trym.ntmps11
  go_wp2
  go_loopw [4] (fun i wr => ∃ k : Nat, k ≤ len ∧ i = .int .i64 k ∧ wr.rowIs w.heap.size 5 len (fun j => if j < k then .int .u8 (f j) else .int .u8 0) ∧ Below w.heap.size w wr) (fun i _ => len - (intOf i).toNat)
  case atStart => exact ⟨0, Nat.zero_le _, rfl, (World.rowIs_made w (.int .u8 0) len 5).congr (fun i _ => by simp), (Below.refl _ _).alloc (Nat.le_refl _) _⟩
  case round =>
    obtain ⟨k, hk, rfl, hrow, hbel⟩ := hrel
    by_cases hlt : k < len
    · have hcx : wr.cell? ⟨b, off + k, none⟩ = some (.int .u8 (f k)) := (hbel.cell (by exact hb)).trans (hc k hlt)
      have hck := hrow.cell hlt
      have hfr := hrow.frozen k
      go_wp2
      go_roundw
      case rel =>
        refine ⟨k + 1, by omega, by go_num, (hrow.set k _).congr (fun j hj => ?_), hbel.setCell (by simp) _⟩
        by_cases e : j = k
        · subst e; simp
        · rw [if_neg e]
          by_cases e2 : j < k
          · rw [if_pos e2, if_pos (by omega)]
          · rw [if_neg e2, if_neg (by omega)]
      case measure => simp [intOf]; omega
    · go_wp2
      go_ret
      exact ⟨rfl, hbel, hrow.congr (fun j hj => by rw [if_pos (by omega)])⟩

theorem byte_bd {n : Int} (h : (Lit.int .u8 n).wf = true) : 0 ≤ n ∧ n ≤ 255 := by
  have := bounds_u8 h
  omega

theorem clone_any (w : World) (a : Option Addr) (len cap : Nat) (zs : List Int) (h : IsRow .u8 w a len cap zs) (hlen : len ≤ 1048576) :
    Calls Trym.prog 11 #[.slice a len cap] w fun e w' => ∃ a', e = .returned (.slice a' len len) ∧ Below w.heap.size w w' ∧ IsCopy w' w.heap.size a' len := by
  rcases h with ⟨rfl, rfl, rfl, rfl⟩ | ⟨x, rfl, hlc, hm, hz, hc, hw⟩
  · refine (clone_nil w).mono ?_
    rintro e w' ⟨rfl, rfl⟩
    exact ⟨_, rfl, Below.refl _ _, .inl rfl⟩
  · by_cases h0 : len = 0
    · subst h0
      refine (clone_zero w x cap).mono ?_
      rintro e w' ⟨rfl, hb⟩
      exact ⟨_, rfl, hb, .inl rfl⟩
    · obtain ⟨b, off, rfl, hc'⟩ := ints_at hc (by omega)
      have hb : b < w.heap.size := World.block_lt_of_cell? w ⟨b, off + 0, none⟩ (hc' 0 (by omega))
      refine (clone_some w b off len cap (fun i => zs.getD i 0) hlen hb (fun i hi => hc' i (by omega))).mono ?_
      rintro e w' ⟨rfl, hbel, hrow⟩
      refine ⟨_, rfl, hbel, .inr ⟨rfl, _, hrow, fun i => ?_⟩⟩
      by_cases hi : i < zs.length
      · have := hw _ (List.getElem_mem hi)
        simp only [List.getD, List.getElem?_eq_getElem hi, Option.getD_some]
        exact byte_bd this
      · simp only [List.getD, List.getElem?_eq_none (Nat.not_lt.1 hi), Option.getD_none]
        omega

set_option maxHeartbeats 400000 in
theorem new_any (w : World) (T E : Int) :
    Calls Trym.prog 12 #[.int .i64 T, .int .i64 E] w fun e w' => e = .returned (.pointer (some ⟨w.heap.size + 3, 0, none⟩)) ∧ Below w.heap.size w w' ∧
      SH w' (w.heap.size + 3) w.heap.size (w.heap.size + 1) (w.heap.size + 2) ⟨T, E, 0, 0, fun _ => none, 0, fun _ => none, 0, fun _ => none, 0⟩ := by
  have hmm := @run_makeMap Trym.prog
  go_enter Trym.func12, Trym.ntmps12
  go_wp2
  go_ret
  have e1 : (w.alloc (.map #[] 0)).heap.size = w.heap.size + 1 := by simp
  have e2 : ((w.alloc (.map #[] 0)).alloc (.map #[] 0)).heap.size = w.heap.size + 2 := by simp
  have e3 : (((w.alloc (.map #[] 0)).alloc (.map #[] 0)).alloc (.map #[] 0)).heap.size = w.heap.size + 3 := by simp
  refine ⟨rfl, (((((Below.refl _ _).alloc (Nat.le_refl _) _).alloc (by simp) _).alloc (by simp; omega) _).alloc (by simp; omega) _), ?_, ?_, ?_, ?_, by omega, by omega, by omega⟩
  · unfold SBlk
    rw [← e3]
    exact heap_alloc_new _ _
  · exact (((mapV_made w Ld.val).alloc _).alloc _).alloc _
  · have := mapV_made (w.alloc (.map #[] 0)) Rs.val
    rw [e1] at this
    exact (this.alloc _).alloc _
  · have := mapV_made ((w.alloc (.map #[] 0)).alloc (.map #[] 0)) Rs.val
    rw [e2] at this
    exact this.alloc _

set_option maxHeartbeats 400000 in
theorem script_zero (w : World) (sb : Nat) (a : Option Addr) (cap : Nat) : Calls Trym.prog 16 #[.pointer (some ⟨sb, 0, none⟩), .slice a 0 cap] w fun e w' => e = .returned (.tuple #[]) ∧ w' = w := by
  go_enter Trym.func16, Trym.ntmps16
  go_wp2
  refine wp_loop_rounds 1 ?_
  rw [rounds_succ]
  go_wp2
  go_end0
  exact ⟨rfl, rfl⟩

set_option maxHeartbeats 400000 in
theorem script_some {B : Nat} {w : World} {sb : Nat} {s : St} (h : Inv B w sb s 0) (b len cap : Nat) (hlen : len ≤ 65536) (hb : b < B) (f : Nat → Int) (hrow : w.rowIs b 5 len (fun i => .int .u8 (f i))) (hf : ∀ i, 0 ≤ f i ∧ f i ≤ 255) :
    Calls Trym.prog 16 #[.pointer (some ⟨sb, 0, none⟩), .slice (some ⟨b, 0, none⟩) len cap] w fun e w' => e = .returned (.tuple #[]) ∧ ∃ s', Inv B w' sb s' len ∧ s'.T = s.T ∧ s'.E = s.E ∧ Below B w w' := by
  have HI : Hid (Inv B w sb s 0) := h
  clear h
  go_enter Trym.func16, Trym.ntmps16
  go_wp2
  go_loopw [4] (fun i wr => ∃ k : Nat, k ≤ len ∧ i = .int .i64 k ∧ ∃ s', Inv B wr sb s' k ∧ s'.T = s.T ∧ s'.E = s.E ∧ Below B w wr) (fun i _ => len - (intOf i).toNat)
  case atStart => exact ⟨0, Nat.zero_le _, rfl, s, HI.out, rfl, rfl, Below.refl _ _⟩
  case round =>
    obtain ⟨k, hk, rfl, s', hI, hT, hE, hbel⟩ := hrel
    have HT : Hid (s'.T = s.T ∧ s'.E = s.E) := ⟨hT, hE⟩
    clear hT hE HI
    by_cases hlt : k < len
    · have hcx : wr.cell? ⟨b, k, none⟩ = some (.int .u8 (f k)) := (hbel.cell (by exact hb)).trans (hrow.cell hlt)
      obtain ⟨f0, f1⟩ := hf k
      go_wp2_with fail
      refine (runOne_any hI (by omega) (f k) f0 f1).mono ?_
      rintro e w2 ⟨rfl, s2, hI2, hT2, hE2, hb2⟩
      have HT2 : Hid (s2.T = s.T ∧ s2.E = s.E) := ⟨hT2.trans HT.out.1, hE2.trans HT.out.2⟩
      clear hT2 hE2
      go_wp2
      go_roundw
      case rel => exact ⟨k + 1, by omega, by go_num, s2, hI2, HT2.out.1, HT2.out.2, hbel.trans hb2⟩
      case measure => simp [intOf]; omega
    · have hkl : k = len := by omega
      subst hkl
      go_wp2
      go_end0
      exact ⟨rfl, s', hI, HT.out.1, HT.out.2, hbel⟩

theorem good_more {s : St} {c d : Nat} (h : Good s c) (hd : c ≤ d) : Good s d := by
  induction hd with
  | refl => exact h
  | step _ ih => exact good_same ih

theorem script_any {B : Nat} {w : World} {sb : Nat} {s : St} (h : Inv B w sb s 0) (a : Option Addr) (b len cap : Nat) (hlen : len ≤ 65536) (hb : 0 < len → b < B) (hc : IsCopy w b a len) :
    Calls Trym.prog 16 #[.pointer (some ⟨sb, 0, none⟩), .slice a len cap] w fun e w' => e = .returned (.tuple #[]) ∧ ∃ s', Inv B w' sb s' 65536 ∧ s'.T = s.T ∧ s'.E = s.E ∧ Below B w w' := by
  have up : ∀ {w' s' c}, Inv B w' sb s' c → c ≤ 65536 → Inv B w' sb s' 65536 := by
    rintro w' s' c ⟨bm, br, bo, h1, h2, h3⟩ hc
    exact ⟨bm, br, bo, h1, good_more h2 hc, h3⟩
  have zero : ∀ a cap, Calls Trym.prog 16 #[.pointer (some ⟨sb, 0, none⟩), .slice a 0 cap] w fun e w' => e = .returned (.tuple #[]) ∧ ∃ s', Inv B w' sb s' 65536 ∧ s'.T = s.T ∧ s'.E = s.E ∧ Below B w w' := by
    intro a cap
    refine (script_zero w sb a cap).mono ?_
    rintro e w' ⟨rfl, rfl⟩
    exact ⟨rfl, s, up h (by omega), rfl, rfl, Below.refl _ _⟩
  rcases hc with rfl | ⟨rfl, f, hrow, hf⟩
  · exact zero a cap
  by_cases h0 : len = 0
  · subst h0
    exact zero _ cap
  · refine (script_some h b len cap hlen (hb (by omega)) f hrow hf).mono ?_
    rintro e w' ⟨rfl, s', h1, h2, h3, h4⟩
    exact ⟨rfl, s', up h1 hlen, h2, h3, h4⟩

theorem IsCopy.later {w w' : World} {b len : Nat} {a : Option Addr} (h : IsCopy w b a len) (hb : Below w.heap.size w w') : IsCopy w' b a len := by
  rcases h with h | ⟨h1, f, hrow, hf⟩
  · exact .inl h
  · exact .inr ⟨h1, f, hrow.of_block (hb.block _ hrow.lt), hf⟩
theorem IsCopy.lt {w : World} {b len : Nat} {a : Option Addr} (h : IsCopy w b a len) (h0 : 0 < len) : b < w.heap.size := by
  rcases h with h | ⟨h1, f, hrow, hf⟩
  · omega
  · exact hrow.lt

/-- The counts behind a new start, from block B on. -/
theorem inv_new {w w' : World} {T E : Int} (t0 : 0 ≤ T) (t1 : T ≤ 65536) (e0 : 0 ≤ E) (e1 : E ≤ 65536) (hb : Below w.heap.size w w')
    (hS : SH w' (w.heap.size + 3) w.heap.size (w.heap.size + 1) (w.heap.size + 2) ⟨T, E, 0, 0, fun _ => none, 0, fun _ => none, 0, fun _ => none, 0⟩) :
    Inv w.heap.size w' (w.heap.size + 3) ⟨T, E, 0, 0, fun _ => none, 0, fun _ => none, 0, fun _ => none, 0⟩ 0 :=
  ⟨_, _, _, hS, good_new T E t0 t1 e0 e1, by omega, by omega, by omega, by omega, hb.size⟩
end Go.Proofs.Qxb6001173aMods
