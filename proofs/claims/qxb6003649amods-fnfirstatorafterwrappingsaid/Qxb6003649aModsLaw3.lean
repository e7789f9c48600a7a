/- Law: FnFirstAtOrAfterWrapping, both forms. -/
import Derived.Test.Qxb6003649aModsLawW
import Derived.Test.Qxb6003649aModsLawN
namespace Go.Proofs.Qxb6003649aMods
open Go.RowKit

theorem law3 (a0 : Option Addr) (n0 c0 : Nat) (a1 : Option Addr) (n1 c1 : Nat) (a2 : Option Addr) (n2 c2 : Nat) (a3 : Option Addr) (n3 c3 : Nat) (a4 : Option Addr) (n4 c4 : Nat) (pl q : Int) (w : World) (f nr st ow : Nat → Nat) (ss : Nat → ByteArray)
    (h0 : ArgN .u32 4294967296 w a0 n0 c0 f) (h1 : ArgN .u16 65536 w a1 n1 c1 nr) (h2 : ArgN .u32 4294967296 w a2 n2 c2 st) (h3 : ArgN .u16 65536 w a3 n3 c3 ow) (h4 : ArgS w a4 n4 c4 ss) (hq : (Lit.int .u32 q).wf = true) :
    Calls Trym.prog 3 #[.slice a0 n0 c0, .slice a1 n1 c1, .slice a2 n2 c2, .slice a3 n3 c3, .slice a4 n4 c4, .int .i64 pl, .int .u32 q] w fun e w' => e = .returned (.bool true) ∧ Below w.heap.size w w' := by
  have hb := bounds_u32 hq
  obtain ⟨Q, rfl⟩ : ∃ Q : Nat, q = (Q : Int) := ⟨q.toNat, by omega⟩
  cases a2 with
  | none => exact law3_wide a0 n0 c0 a1 n1 c1 n2 c2 a3 n3 c3 a4 n4 c4 pl Q w f nr st ow ss h0 h1 h2 h3 h4 (by omega)
  | some x2 => exact law3_narrow a0 n0 c0 a1 n1 c1 x2 n2 c2 a3 n3 c3 a4 n4 c4 pl Q w f nr st ow ss h0 h1 h2 h3 h4 (by omega)

end Go.Proofs.Qxb6003649aMods
