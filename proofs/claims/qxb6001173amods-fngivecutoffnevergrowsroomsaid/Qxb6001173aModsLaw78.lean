/- The laws FnGiveInTimeNeverShrinksRoom and FnGiveCutOffNeverGrowsRoom. -/
import Derived.Test.Qxb6001173aModsLaw7
namespace Go.Proofs.Qxb6001173aMods
open Go.RowKit Go.Maps
set_option linter.unusedVariables false

set_option maxHeartbeats 1000000 in
theorem law7 (T E : Int) (a : Option Addr) (len cap : Nat) (zs : List Int) (k : Int) (w : World) (hr : IsRow .u8 w a len cap zs) (hk : (Lit.int .u8 k).wf = true) :
    Calls Trym.prog 7 #[.int .i64 T, .int .i64 E, .slice a len cap, .int .u8 k] w fun e w' => e = .returned (.bool true) ∧ Below w.heap.size w w' := by
  have HR : Hid (IsRow .u8 w a len cap zs) := hr
  obtain ⟨k0, k1⟩ := byte_bd hk
  have hlm : len ≤ maxLen := by
    rcases hr with ⟨_, rfl, _⟩ | ⟨x, _, h1, h2, _⟩
    · omega
    · omega
  unfold maxLen at hlm
  clear hr hk
  go_enter Trym.func7, Trym.ntmps7
  go_wp2_with fail
  by_cases h1 : 1048576 < len
  · refine (zz29_no T E k a len cap w h1).mono ?_
    rintro e w' ⟨rfl, rfl⟩
    go_wp2
    go_ret
    exact ⟨rfl, Below.refl _ _⟩
  · refine (zz29_yes T E k a len cap w (by omega)).mono ?_
    rintro e w' ⟨rfl, rfl⟩
    by_cases h2 : 65536 < len
    · go_wp2
      go_ret
      exact ⟨rfl, Below.refl _ _⟩
    · go_wp2_with fail
      by_cases h3 : T < 0 ∨ 65536 < T ∨ E < 0 ∨ 65536 < E
      · refine (bad_yes T E w' h3).mono ?_
        rintro e w2 ⟨rfl, rfl⟩
        go_wp2
        go_ret
        exact ⟨rfl, Below.refl _ _⟩
      · obtain ⟨t0, t1, e0, e1⟩ : 0 ≤ T ∧ T ≤ 65536 ∧ 0 ≤ E ∧ E ≤ 65536 := by omega
        clear h3
        refine (bad_no T E w' t0 t1 e0 e1).mono ?_
        rintro e w2 ⟨rfl, rfl⟩
        go_wp2_with fail
        refine (clone_any _ a len cap zs HR.out (by omega)).mono ?_
        rintro e w3 ⟨a', rfl, hb3, hcp⟩
        go_wp2_with fail
        refine (tg_any w3 T E a' _ len k 1 t0 t1 e0 e1 (by omega) hcp k0 k1 (by omega)).mono ?_
        rintro e w4 ⟨x, y, rfl, hx, hy, hb4⟩
        have HB : Hid (Below w2.heap.size w2 w4) := hb3.trans (hb4.mono hb3.size)
        have hle : x ≤ y := hx rfl
        clear hx hy hb3 hb4 hcp HR
        go_wp2
        all_goals go_ret
        all_goals exact ⟨ret_bool (by simp), HB.out⟩

set_option maxHeartbeats 1000000 in
theorem law8 (T E : Int) (a : Option Addr) (len cap : Nat) (zs : List Int) (k : Int) (w : World) (hr : IsRow .u8 w a len cap zs) (hk : (Lit.int .u8 k).wf = true) :
    Calls Trym.prog 8 #[.int .i64 T, .int .i64 E, .slice a len cap, .int .u8 k] w fun e w' => e = .returned (.bool true) ∧ Below w.heap.size w w' := by
  have HR : Hid (IsRow .u8 w a len cap zs) := hr
  obtain ⟨k0, k1⟩ := byte_bd hk
  have hlm : len ≤ maxLen := by
    rcases hr with ⟨_, rfl, _⟩ | ⟨x, _, h1, h2, _⟩
    · omega
    · omega
  unfold maxLen at hlm
  clear hr hk
  go_enter Trym.func8, Trym.ntmps8
  go_wp2_with fail
  by_cases h1 : 1048576 < len
  · refine (zz31_no T E k a len cap w h1).mono ?_
    rintro e w' ⟨rfl, rfl⟩
    go_wp2
    go_ret
    exact ⟨rfl, Below.refl _ _⟩
  · refine (zz31_yes T E k a len cap w (by omega)).mono ?_
    rintro e w' ⟨rfl, rfl⟩
    by_cases h2 : 65536 < len
    · go_wp2
      go_ret
      exact ⟨rfl, Below.refl _ _⟩
    · go_wp2_with fail
      by_cases h3 : T < 0 ∨ 65536 < T ∨ E < 0 ∨ 65536 < E
      · refine (bad_yes T E w' h3).mono ?_
        rintro e w2 ⟨rfl, rfl⟩
        go_wp2
        go_ret
        exact ⟨rfl, Below.refl _ _⟩
      · obtain ⟨t0, t1, e0, e1⟩ : 0 ≤ T ∧ T ≤ 65536 ∧ 0 ≤ E ∧ E ≤ 65536 := by omega
        clear h3
        refine (bad_no T E w' t0 t1 e0 e1).mono ?_
        rintro e w2 ⟨rfl, rfl⟩
        go_wp2_with fail
        refine (clone_any _ a len cap zs HR.out (by omega)).mono ?_
        rintro e w3 ⟨a', rfl, hb3, hcp⟩
        go_wp2_with fail
        refine (tg_any w3 T E a' _ len k 2 t0 t1 e0 e1 (by omega) hcp k0 k1 (by omega)).mono ?_
        rintro e w4 ⟨x, y, rfl, hx, hy, hb4⟩
        have HB : Hid (Below w2.heap.size w2 w4) := hb3.trans (hb4.mono hb3.size)
        have hle : y ≤ x := hy rfl
        clear hx hy hb3 hb4 hcp HR
        go_wp2
        all_goals go_ret
        all_goals exact ⟨ret_bool (by simp), HB.out⟩
end Go.Proofs.Qxb6001173aMods
