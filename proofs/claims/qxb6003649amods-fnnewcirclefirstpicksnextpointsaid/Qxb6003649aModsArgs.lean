/- The arguments: slices of numbers that came in. -/
import Derived.Test.Qxb6003649aModsDeals
namespace Go.Proofs.Qxb6003649aMods
open Go.RowKit
set_option linter.unusedVariables false

/-- WHAT THE WALK IS TOLD OF A SLICE OF INTEGERS THAT CAME IN (as the shells have it). -/
def IsRow (k : IntKind) (w : World) (a : Option Addr) (len cap : Nat) (zs : List Int) : Prop :=
  (a = none ∧ len = 0 ∧ cap = 0 ∧ zs = []) ∨
  ∃ x, a = some x ∧ len ≤ cap ∧ cap ≤ maxLen ∧ zs.length = cap ∧ (∀ i, i < zs.length → w.cell? (x.add i) = some (.int k (zs.getD i 0))) ∧ ∀ n ∈ zs, (Lit.int k n).wf = true

/-- The same, in natural numbers below M. -/
structure ArgN (k : IntKind) (M : Nat) (w : World) (a : Option Addr) (len cap : Nat) (f : Nat → Nat) : Prop where
  len_le : len ≤ maxLen
  nil : a = none → len = 0 ∧ cap = 0
  lt : ∀ i, i < len → f i < M
  cells : 0 < len → ∃ b off, a = some ⟨b, off, none⟩ ∧ b < w.heap.size ∧ ∀ i, i < len → w.cell? ⟨b, off + i, none⟩ = some (.int k (f i : Int))

theorem ArgN.rd {k : IntKind} {M : Nat} {w : World} {a : Option Addr} {len cap : Nat} {f : Nat → Nat} (h : ArgN k M w a len cap f) : Rd w a len (fun i => .int k (f i : Int)) := by
  intro h0
  obtain ⟨b, off, rfl, _, hc⟩ := h.cells h0
  refine ⟨_, rfl, fun i hi => ?_⟩
  have hadd : (⟨b, off, none⟩ : Addr).add i = ⟨b, off + i, none⟩ := by unfold Addr.add; split <;> simp_all
  rw [hadd]
  exact hc i hi

theorem argN_of {k : IntKind} {M : Nat} {w : World} {a : Option Addr} {len cap : Nat} {zs : List Int} (hb : ∀ n : Int, (Lit.int k n).wf = true → 0 ≤ n ∧ n < (M : Int)) (h : IsRow k w a len cap zs) : ∃ f, ArgN k M w a len cap f := by
  refine ⟨fun i => (zs.getD i 0).toNat, ?_⟩
  rcases h with ⟨rfl, rfl, rfl, rfl⟩ | ⟨x, rfl, hlc, hm, hz, hc, hw⟩
  · exact ⟨by simp, fun _ => ⟨rfl, rfl⟩, fun i hi => by omega, fun h0 => by omega⟩
  · have hv : ∀ i, i < len → 0 ≤ zs.getD i 0 ∧ zs.getD i 0 < (M : Int) := by
      intro i hi
      have hil : i < zs.length := by omega
      have := hb _ (hw _ (List.getElem_mem hil))
      simpa [List.getD, List.getElem?_eq_getElem hil] using this
    refine ⟨by omega, fun e => by simp at e, fun i hi => ?_, fun h0 => ?_⟩
    · have := hv i hi
      omega
    · obtain ⟨b, off, rfl, hc'⟩ := ints_at hc (by omega)
      refine ⟨b, off, rfl, World.block_lt_of_cell? w ⟨b, off + 0, none⟩ (hc' 0 (by omega)), fun i hi => ?_⟩
      rw [hc' i (by omega)]
      have := hv i hi
      rw [Int.toNat_of_nonneg this.1]

theorem bd16 (n : Int) (h : (Lit.int .u16 n).wf = true) : 0 ≤ n ∧ n < ((65536 : Nat) : Int) := by have := bounds_u16 h; omega
theorem bd32 (n : Int) (h : (Lit.int .u32 n).wf = true) : 0 ≤ n ∧ n < ((4294967296 : Nat) : Int) := by have := bounds_u32 h; omega
theorem bd64 (n : Int) (h : (Lit.int .u64 n).wf = true) : 0 ≤ n ∧ n < ((18446744073709551616 : Nat) : Int) := by have := bounds_u64 h; omega

end Go.Proofs.Qxb6003649aMods
