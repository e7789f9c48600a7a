/- The arguments: slices of strings that came in, out of their reading. -/
import Derived.Test.Qxb6003649aModsZz20
import Derived.SliceStrings
namespace Go.Proofs.Qxb6003649aMods
open Go.RowKit
set_option linter.unusedVariables false

theorem cells9 : Trym.prog.cellsOf 9 = 1 := by kernel_rfl

theorem argS_nil (w : World) : ∃ s, ArgS w none 0 0 s :=
  ⟨fun _ => ByteArray.empty, by simp, fun _ => ⟨rfl, rfl⟩, fun i hi => by omega, fun h0 => by omega⟩

theorem argS_some {w : World} {x : Addr} {len cap : Nat} {ss : List ByteArray} (hl : len ≤ cap) (hm : cap ≤ maxLen) (hz : ss.length = cap) (hc : ∀ i, i < ss.length → w.cell? (x.add i) = some (.string (ss.getD i ByteArray.empty))) (hs : ∀ s ∈ ss, s.size ≤ maxLen) :
    ∃ s, ArgS w (some x) len cap s := by
  refine ⟨fun i => ss.getD i ByteArray.empty, by omega, fun e => by simp at e, fun i hi => ?_, fun h0 => ?_⟩
  · have hil : i < ss.length := by omega
    have := hs _ (List.getElem_mem hil)
    simpa [List.getD, List.getElem?_eq_getElem hil] using this
  · obtain ⟨b, off, spot⟩ := x
    have hspot : spot = none := by simpa [Addr.add] using World.cell?_spot (hc 0 (by omega))
    subst hspot
    have hc' : ∀ i, i < len → w.cell? ⟨b, off + i, none⟩ = some (.string (ss.getD i ByteArray.empty)) := fun i hi => by
      rw [← Go.WideShapes.add_plain]; exact hc i (by omega)
    exact ⟨b, off, rfl, World.block_lt_of_cell? w ⟨b, off + 0, none⟩ (hc' 0 h0), hc'⟩

end Go.Proofs.Qxb6003649aMods
