/- Walks: take, give. -/
import Derived.Test.Qxb6001173aModsW1
namespace Go.Proofs.Qxb6001173aMods
open Go.RowKit Go.Maps
set_option linter.unusedVariables false

def Ld.up (l : Ld) : Ld := ⟨l.u + 1, max l.w (l.u + 1), l.g⟩
def St.take (s : St) (k : List UInt8) : St :=
  { s with by_ := upd s.by_ k (some (s.load k).up), bn := if (s.by_ k).isSome then s.bn else s.bn + 1, N := s.N + 1 }

theorem SH.setBy {w w' : World} {sb bm br bo : Nat} {s : St} (h : SH w sb bm br bo s) {f : List UInt8 → Option Ld} {n : Nat} (hm : MapV w' bm Ld.val f n) (hc : Ch [bm] w w') : SH w' sb bm br bo { s with by_ := f, bn := n } :=
  ⟨h.blk.of_block (hc.block _ h.blk.lt (by simpa using h.sm)), hm, h.r.of_block (hc.block _ h.r.lt (by simpa using h.mr.symm)), h.o.of_block (hc.block _ h.o.lt (by simpa using h.mo.symm)), h.mr, h.mo, h.ro⟩

theorem SH.setN {w : World} {sb bm br bo : Nat} {s : St} (h : SH w sb bm br bo s) (n : Int) : SH (w.setCell ⟨sb, 2, none⟩ (.int .i64 n)) sb bm br bo { s with N := n } :=
  have hc := Ch.setCell w ⟨sb, 2, none⟩ (.int .i64 n)
  ⟨h.blk.setN n, h.m.of_block (hc.block _ h.m.lt (by simpa using h.sm.symm)), h.r.of_block (hc.block _ h.r.lt (by simpa using h.sr.symm)), h.o.of_block (hc.block _ h.o.lt (by simpa using h.so.symm)), h.mr, h.mo, h.ro⟩

theorem SH.setL {w : World} {sb bm br bo : Nat} {s : St} (h : SH w sb bm br bo s) (n : Int) : SH (w.setCell ⟨sb, 4, none⟩ (.int .i64 n)) sb bm br bo { s with L := n } :=
  have hc := Ch.setCell w ⟨sb, 4, none⟩ (.int .i64 n)
  ⟨h.blk.setL n, h.m.of_block (hc.block _ h.m.lt (by simpa using h.sm.symm)), h.r.of_block (hc.block _ h.r.lt (by simpa using h.sr.symm)), h.o.of_block (hc.block _ h.o.lt (by simpa using h.so.symm)), h.mr, h.mo, h.ro⟩

set_option maxHeartbeats 400000 in
theorem take_any {w : World} {sb bm br bo : Nat} {s : St} (h : SH w sb bm br bo s) (ok : s.Ok) (k : ByteArray) (hk : k.size ≤ maxLen) :
    Calls Trym.prog 40 #[.pointer (some ⟨sb, 0, none⟩), .string k] w fun e w' => e = .returned (.tuple #[]) ∧ SH w' sb bm br bo (s.take k.data.toList) ∧ Ch [sb, bm] w w' := by
  have hlo := ok.load k.data.toList
  have HS : Hid (∀ l, l = s.load k.data.toList → s.take k.data.toList = { s with by_ := upd s.by_ k.data.toList (some l.up), bn := if (s.by_ k.data.toList).isSome then s.bn else s.bn + 1, N := s.N + 1 }) := by intro l hl; subst hl; rfl
  generalize hl : s.load k.data.toList = l at *
  have HS1 : Hid (s.take k.data.toList = { s with by_ := upd s.by_ k.data.toList (some l.up), bn := if (s.by_ k.data.toList).isSome then s.bn else s.bn + 1, N := s.N + 1 }) := HS.out l rfl
  have HC := load_any h k hk l hl
  clear hl HS
  obtain ⟨u0, u1, w0, w1, g0, g1⟩ := hlo
  have hbn := ok.bn
  have n0 := ok.N0
  have n1 := ok.N1
  go_enter Trym.func40, Trym.ntmps40
  go_wp2_with fail
  refine HC.mono ?_
  rintro e w1 ⟨rfl, hbel⟩
  clear HC
  have h1 := h.later hbel
  have c3 := h1.blk.c3
  have hb1 := h1.blk.lt
  go_wp2_with fail
  have hch : ∀ o, Ch [] w (w1.alloc o).drew := fun o => ((Ch.of_below hbel []).trans (Ch.alloc _ o _)).trans (Ch.drew _ _)
  have h2 := h.kept (hch (Obj.cells #[.int .i64 (l.u + 1), .int .i64 (max l.w (l.u + 1)), .int .i64 l.g] 61)) (by simp) (by simp) (by simp) (by simp)
  obtain ⟨w2, hrun, hV2, hturn⟩ := h2.m.store Trym.underlying49 (by unfold maxLen; omega) hk l.up
  simp only [Ld.val, Ld.up] at hrun
  have h3 := h2.setBy hV2 (Ch.of_turned hturn)
  have HF : Hid (Ch [sb, bm] w w2) := ((hch _).mono (by simp)).trans ((Ch.of_turned hturn).mono (by simp))
  have c2 := h3.blk.c2
  have f2 := h3.blk.fr 2
  clear hV2 hturn h2 hch h h1 hbel
  go_region
  all_goals go_wp2
  all_goals (go_end0; refine ⟨rfl, ?_, HF.out.trans ((Ch.setCell _ _ _).mono (by simp))⟩; rw [HS1.out]; exact h3.setN _)
end Go.Proofs.Qxb6001173aMods
