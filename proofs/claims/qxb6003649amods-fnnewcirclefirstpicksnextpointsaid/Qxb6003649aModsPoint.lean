/- Walk: circlePoint. -/
import Derived.Test.Qxb6003649aModsDeals
namespace Go.Proofs.Qxb6003649aMods
open Go.RowKit
set_option linter.unusedVariables false

theorem or_point (q o : Nat) (hq : q < 4294967296) (ho : o < 65536) : bits .or .u64 ((q : Int) * 4294967296) (o : Int) = ((q * 4294967296 + o : Nat) : Int) := by
  have h := u64_or_nat (q * 4294967296) o (by omega) (by omega)
  have e : q * 4294967296 ||| o = q * 4294967296 + o := by
    have := Nat.shiftLeft_add_eq_or_of_lt (a := q) (b := o) (i := 32) (by omega)
    rw [Nat.shiftLeft_eq] at this
    exact this.symm
  rw [e] at h
  exact h

theorem point_any (w : World) (q o : Nat) (hq : q < 4294967296) (ho : o < 65536) :
    Calls Trym.prog 29 #[.int .u32 (q : Int), .int .i64 (o : Int)] w fun e w' => e = .returned (.int .u64 ((q * 4294967296 + o : Nat) : Int)) ∧ w' = w := by
  have hor := or_point q o hq ho
  go_enter Trym.func29, Trym.ntmps29
  go_wp2
  go_ret
  exact ⟨rfl, rfl⟩

end Go.Proofs.Qxb6003649aMods
