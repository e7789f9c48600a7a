/- Walks: the tests at the laws' heads. -/
import Derived.Test.Qxb6001173aModsW8
namespace Go.Proofs.Qxb6001173aMods
open Go.RowKit Go.Maps
set_option linter.unusedVariables false

theorem ret_bool {a b : Bool} (h : a = b) : Ending.returned (.bool a) = .returned (.bool b) := by rw [h]

theorem bad_no (T E : Int) (w : World) (h1 : 0 ≤ T) (h2 : T ≤ 65536) (h3 : 0 ≤ E) (h4 : E ≤ 65536) : Calls Trym.prog 10 #[.int .i64 T, .int .i64 E] w fun e w' => e = .returned (.bool false) ∧ w' = w := by
  go_enter Trym.func10, Trym.ntmps10
  go_wp2
  go_ret
  exact ⟨ret_bool (by simp; omega), rfl⟩

theorem bad_yes (T E : Int) (w : World) (h : T < 0 ∨ 65536 < T ∨ E < 0 ∨ 65536 < E) : Calls Trym.prog 10 #[.int .i64 T, .int .i64 E] w fun e w' => e = .returned (.bool true) ∧ w' = w := by
  by_cases h1 : T < 0
  · clear h
    go_enter Trym.func10, Trym.ntmps10
    go_wp2
    all_goals (go_ret; exact ⟨rfl, rfl⟩)
  · by_cases h2 : 65536 < T
    · clear h
      go_enter Trym.func10, Trym.ntmps10
      go_wp2
      all_goals (go_ret; exact ⟨rfl, rfl⟩)
    · by_cases h3 : E < 0
      · clear h
        go_enter Trym.func10, Trym.ntmps10
        go_wp2
        all_goals (go_ret; exact ⟨rfl, rfl⟩)
      · have h4 : 65536 < E := by omega
        clear h
        go_enter Trym.func10, Trym.ntmps10
        go_wp2
        all_goals (go_ret; exact ⟨rfl, rfl⟩)

theorem zz27_yes (T E : Int) (a : Option Addr) (len cap : Nat) (w : World) (h : len ≤ 1048576) : Calls Trym.prog 27 #[.int .i64 T, .int .i64 E, .slice a len cap] w fun e w' => e = .returned (.bool true) ∧ w' = w := by
  go_enter Trym.func27, Trym.ntmps27
  go_wp2
  go_ret
  exact ⟨rfl, rfl⟩
theorem zz27_no (T E : Int) (a : Option Addr) (len cap : Nat) (w : World) (h : 1048576 < len) : Calls Trym.prog 27 #[.int .i64 T, .int .i64 E, .slice a len cap] w fun e w' => e = .returned (.bool false) ∧ w' = w := by
  go_enter Trym.func27, Trym.ntmps27
  go_wp2
  go_ret
  exact ⟨rfl, rfl⟩
theorem zz24_yes (T E : Int) (a : Option Addr) (len cap : Nat) (w : World) (h : len ≤ 1048576) : Calls Trym.prog 24 #[.int .i64 T, .int .i64 E, .slice a len cap] w fun e w' => e = .returned (.bool true) ∧ w' = w := by
  go_enter Trym.func24, Trym.ntmps24
  go_wp2
  go_ret
  exact ⟨rfl, rfl⟩
theorem zz24_no (T E : Int) (a : Option Addr) (len cap : Nat) (w : World) (h : 1048576 < len) : Calls Trym.prog 24 #[.int .i64 T, .int .i64 E, .slice a len cap] w fun e w' => e = .returned (.bool false) ∧ w' = w := by
  go_enter Trym.func24, Trym.ntmps24
  go_wp2
  go_ret
  exact ⟨rfl, rfl⟩
theorem zz29_yes (T E k : Int) (a : Option Addr) (len cap : Nat) (w : World) (h : len ≤ 1048576) : Calls Trym.prog 29 #[.int .i64 T, .int .i64 E, .slice a len cap, .int .u8 k] w fun e w' => e = .returned (.bool true) ∧ w' = w := by
  go_enter Trym.func29, Trym.ntmps29
  go_wp2
  go_ret
  exact ⟨rfl, rfl⟩
theorem zz29_no (T E k : Int) (a : Option Addr) (len cap : Nat) (w : World) (h : 1048576 < len) : Calls Trym.prog 29 #[.int .i64 T, .int .i64 E, .slice a len cap, .int .u8 k] w fun e w' => e = .returned (.bool false) ∧ w' = w := by
  go_enter Trym.func29, Trym.ntmps29
  go_wp2
  go_ret
  exact ⟨rfl, rfl⟩
theorem zz31_yes (T E k : Int) (a : Option Addr) (len cap : Nat) (w : World) (h : len ≤ 1048576) : Calls Trym.prog 31 #[.int .i64 T, .int .i64 E, .slice a len cap, .int .u8 k] w fun e w' => e = .returned (.bool true) ∧ w' = w := by
  go_enter Trym.func31, Trym.ntmps31
  go_wp2
  go_ret
  exact ⟨rfl, rfl⟩
theorem zz31_no (T E k : Int) (a : Option Addr) (len cap : Nat) (w : World) (h : 1048576 < len) : Calls Trym.prog 31 #[.int .i64 T, .int .i64 E, .slice a len cap, .int .u8 k] w fun e w' => e = .returned (.bool false) ∧ w' = w := by
  go_enter Trym.func31, Trym.ntmps31
  go_wp2
  go_ret
  exact ⟨rfl, rfl⟩

end Go.Proofs.Qxb6001173aMods
