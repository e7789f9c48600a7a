/- The law FnClaimFirstIsFreshKeysRoom: its walk. -/
import Derived.Test.Qxb6001173aModsTurns
import Derived.Test.Qxb6001173aModsW10
namespace Go.Proofs.Qxb6001173aMods
open Go.RowKit Go.Maps
set_option linter.unusedVariables false
attribute [local go_sem] cell_alloc_map frozen_alloc_map

theorem zzTurns_any {w : World} {sb bm br bo : Nat} {s : St} (h : SH w sb bm br bo s) (ok : s.Ok) (hL : s.L < 1000000) (bi bk ci : Nat) (hi : w.cell? ⟨bi, 0, none⟩ = some (.string itemB)) (nk : Nat) (hk : MapV w bk Value.string ksF nk) (c : Nat) (hG : Good s c) (hcc : c ≤ 100000) (p1 : s.by_ fresh.data.toList = none) (p2 : s.re fresh.data.toList = none) (p3 : s.ol fresh.data.toList = none) :
    Calls Trym.prog 23 #[.pointer (some ⟨sb, 0, none⟩), .slice (some ⟨bi, 0, none⟩) 1 ci, .map (some bk)] w fun e w' => TurnEnd e w w' sb s := by
  go_enter Trym.func23, Trym.ntmps23
  go_wp2_with fail
  refine (turns_any h ok hL bi bk ci hi nk hk c hG hcc p1 p2 p3).mono ?_
  rintro e w' ⟨bS, t, rfl, hP⟩
  go_wp2
  go_ret
  exact ⟨bS, t, rfl, hP⟩

theorem look_st' (t : Int) : ((stF t itemB.data.toList).map (Value.int .i64)).getD (.int .i64 0) = .int .i64 (max 0 t) := by
  unfold stF
  by_cases ht : 0 < t
  · have e : max 0 t = t := by omega
    simp [ht, e]
  · have e : max 0 t = 0 := by omega
    simp [ht, e]

theorem fresh_not_kb : ¬ IsKb fresh.data.toList := by
  rintro ⟨i, _, h⟩
  have : fresh.data.toList.length = (kb i).length := by rw [h]
  simp [fresh, kb] at this

theorem good_fresh {s : St} {c : Nat} (h : Good s c) : s.by_ fresh.data.toList = none ∧ s.re fresh.data.toList = none ∧ s.ol fresh.data.toList = none := by
  refine ⟨?_, ?_, ?_⟩
  · cases e : s.by_ fresh.data.toList with
    | none => rfl
    | some l => exact absurd (h.by_ _ _ e).1 fresh_not_kb
  · cases e : s.re fresh.data.toList with
    | none => rfl
    | some l => exact absurd (h.re _ _ e).1 fresh_not_kb
  · cases e : s.ol fresh.data.toList with
    | none => rfl
    | some l => exact absurd (h.ol _ _ e).1 fresh_not_kb

set_option maxHeartbeats 1000000 in
theorem law6 (T E : Int) (a : Option Addr) (len cap : Nat) (zs : List Int) (w : World) (hr : IsRow .u8 w a len cap zs) :
    Calls Trym.prog 6 #[.int .i64 T, .int .i64 E, .slice a len cap] w fun e w' => e = .returned (.bool true) ∧ Below w.heap.size w w' := by
  have HR : Hid (IsRow .u8 w a len cap zs) := hr
  have hlm : len ≤ maxLen := by
    rcases hr with ⟨_, rfl, _⟩ | ⟨x, _, h1, h2, _⟩
    · omega
    · omega
  unfold maxLen at hlm
  clear hr
  go_enter Trym.func6, Trym.ntmps6
  go_wp2_with fail
  by_cases h1 : 1048576 < len
  · refine (zz27_no T E a len cap w h1).mono ?_
    rintro e w' ⟨rfl, rfl⟩
    go_wp2
    go_ret
    exact ⟨rfl, Below.refl _ _⟩
  · refine (zz27_yes T E a len cap w (by omega)).mono ?_
    rintro e w' ⟨rfl, rfl⟩
    by_cases h2 : 65536 < len
    · go_wp2
      go_ret
      exact ⟨rfl, Below.refl _ _⟩
    · go_wp2_with fail
      by_cases h3 : T < 0 ∨ 65536 < T ∨ E < 0 ∨ 65536 < E
      · refine (bad_yes T E w' h3).mono ?_
        rintro e w2 ⟨rfl, rfl⟩
        go_wp2
        go_ret
        exact ⟨rfl, Below.refl _ _⟩
      · obtain ⟨t0, t1, e0, e1⟩ : 0 ≤ T ∧ T ≤ 65536 ∧ 0 ≤ E ∧ E ≤ 65536 := by omega
        clear h3
        refine (bad_no T E w' t0 t1 e0 e1).mono ?_
        rintro e w2 ⟨rfl, rfl⟩
        go_wp2_with fail
        refine (clone_any _ a len cap zs HR.out (by omega)).mono ?_
        rintro e w3 ⟨a', rfl, hb3, hcp⟩
        go_wp2_with fail
        refine (new_any w3 T E).mono ?_
        rintro e w4 ⟨rfl, hb4, hS4⟩
        have hI := inv_new t0 t1 e0 e1 hb4 hS4
        have hcp4 := hcp.later hb4
        clear hS4
        generalize w3.heap.size + 3 = sb at *
        go_wp2_with fail
        refine (script_any hI a' _ len len (by omega) (fun h => hcp.lt h) hcp4).mono ?_
        rintro e w5 ⟨rfl, s5, ⟨bm, br, bo, hS5, hG5, b0, b1, b2, b3, b4⟩, hT5, hE5, hb5⟩
        have ok5 := hG5.ok (by omega)
        have hL5 := hG5.L1
        clear hT5 hE5 hI hcp4
        go_wp2_with fail
        refine (zzClaim_any hS5 ok5 (by omega)).mono ?_
        rintro e w6 ⟨bR, rfl, hS6, -, hc6, -⟩
        have ok6 := ok5.looked (s5.L + 1) (by have := ok5.L0; omega) (by omega)
        obtain ⟨f1, f2, f3⟩ := good_fresh hG5
        have hrf : ({ s5 with L := s5.L + 1 } : St).room fresh.data.toList = s5.first := room_fresh (s := { s5 with L := s5.L + 1 }) _ f1 f2 f3
        go_wp2_with fail
        refine (freshKey_any w6).mono ?_
        rintro e w7 ⟨rfl, hw7⟩
        rw [hw7]
        clear hw7 w7
        go_wp2_with fail
        refine (zzRoom_any hS6 ok6 fresh fresh_size).mono ?_
        rintro e w7 ⟨rfl, hb7⟩
        rw [hrf]
        have hS7 := hS6.later hb7
        have hmm := @run_makeMap Trym.prog
        obtain ⟨w8, hrun8, hV8, hturn8⟩ := (mapV_made w7 Value.string).store Trym.underlying38 (by unfold maxLen; omega) item_size fresh
        go_wp2_with fail
        refine (freshKey_any _).mono ?_
        rintro e w9 ⟨rfl, hw9⟩
        subst hw9
        have hrun8' : (Instr.mapUpdate 38 (.map (some w7.heap.size)) (.string ⟨#[102, 114, 101, 115, 104, 45, 105, 116, 101, 109]⟩) (.string ⟨#[102, 114, 101, 115, 104]⟩)).run Trym.prog (w7.alloc (.map #[] 0)) = .ok () w8 := hrun8
        have hV8' : MapV w8 w7.heap.size Value.string ksF 1 := hV8.congr (fun k => rfl)
        have hc8 : Ch [] w7 w8 := ((Ch.alloc w7 (.map #[] 0) []).andThen (Ch.of_turned hturn8) (fun i hi => by simp at hi; subst hi; exact .inr (Nat.le_refl _)))
        have hS8 := hS7.kept hc8 (by simp) (by simp) (by simp) (by simp)
        clear hrun8 hV8 hturn8 hS7
        go_wp2_with fail
        have hal : Ch [] w8 (w8.alloc (Obj.cells #[.string itemB] 9)) := Ch.alloc _ _ _
        have hci : (w8.alloc (Obj.cells #[.string itemB] 9)).cell? ⟨w8.heap.size, 0, none⟩ = some (.string itemB) := by simp
        have hV8b := hV8'.of_block (hal.block _ hV8'.lt (by simp))
        have hS8b := hS8.kept hal (by simp) (by simp) (by simp) (by simp)
        have hG6 := good_claim hG5
        refine (zzTurns_any hS8b ok6 (by simp only []; omega) w8.heap.size w7.heap.size 1 hci 1 hV8b 65537 hG6 (by omega) f1 f2 f3).mono ?_
        rintro e w9 ⟨bS, t, rfl, hVS, hiff, hc9⟩
        have hz3 := hb3.size
        have hz4 := hb4.size
        have hz6 := hc6.size
        have hz7 := hb7.size
        have hz8 := hc8.size
        have HB : Hid (Below w2.heap.size w2 w9) := by
          have g1 : Below w2.heap.size w2 w4 := hb3.trans (hb4.mono hz3)
          have g2 : Below w2.heap.size w2 w5 := g1.trans (hb5.mono hz3)
          have g3 : Below w2.heap.size w2 w6 := g2.trans (hc6.below (by omega) (by simp; omega))
          have g4 : Below w2.heap.size w2 w7 := g3.trans (hb7.mono (by omega))
          have g5 : Below w2.heap.size w2 w8 := g4.trans (hc8.below (by omega) (by simp))
          exact (g5.trans (hal.below (by omega) (by simp))).trans (hc9.below (by simp; omega) (by simp; omega))
        have hiff' : 0 < t ↔ 0 < s5.first := hiff
        have hst := look_st' t
        have hVS' := hVS
        clear hiff hc9 hS8b hV8b hci hal hS8 hc8 hV8' hb7 hrf f1 f2 f3 ok6 hc6 hS6 hL5 ok5 hb5 hS5 hG5 hG6 hrun8'
        by_cases ht : 0 < t
        · have hf := hiff'.1 ht
          have hm : max 0 t = t := by omega
          rw [hm] at hst
          clear hm hiff'
          go_wp2_with (first | (at_lookup; refine wpList_lookV _ rfl _ _ 39 3 rfl Trym.underlying39 (zero3 _) rfl hVS' itemB rfl item_size _ hst ?_; clear hst))
          go_ret
          exact ⟨ret_bool (by simp), HB.out⟩
        · have hf : ¬ 0 < s5.first := fun h => ht (hiff'.2 h)
          have hm : max 0 t = 0 := by omega
          rw [hm] at hst
          clear hm hiff'
          go_wp2_with (first | (at_lookup; refine wpList_lookV _ rfl _ _ 39 3 rfl Trym.underlying39 (zero3 _) rfl hVS' itemB rfl item_size _ hst ?_; clear hst))
          go_ret
          exact ⟨ret_bool (by simp [hf]), HB.out⟩
end Go.Proofs.Qxb6001173aMods
