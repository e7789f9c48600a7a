/- Walks: a script's step and the script. -/
import Derived.Test.Qxb6001173aModsW6
namespace Go.Proofs.Qxb6001173aMods
open Go.RowKit Go.Maps
set_option linter.unusedVariables false
attribute [local go_sem] cell_alloc_map frozen_alloc_map

/-- The counts s lie behind sb, all from block B on, c steps into the script. -/
def Inv (B : Nat) (w : World) (sb : Nat) (s : St) (c : Nat) : Prop :=
  ∃ bm br bo, SH w sb bm br bo s ∧ Good s c ∧ B ≤ sb ∧ B ≤ bm ∧ B ≤ br ∧ B ≤ bo ∧ B ≤ w.heap.size

theorem Inv.below {B : Nat} {w w' : World} {sb : Nat} {s : St} {c : Nat} (h : Inv B w sb s c) (hb : Below w.heap.size w w') : Inv B w' sb s c := by
  obtain ⟨bm, br, bo, h1, h2, h3, h4, h5, h6, h7⟩ := h
  exact ⟨bm, br, bo, h1.later hb, h2, h3, h4, h5, h6, Nat.le_trans h7 hb.size⟩

/-- What a step of the script leaves. -/
def StepPost (B : Nat) (w w' : World) (sb : Nat) (s : St) (c : Nat) : Prop := ∃ s', Inv B w' sb s' (c + 1) ∧ s'.T = s.T ∧ s'.E = s.E ∧ Below B w w'

section
variable {B : Nat} {w w1 w2 : World} {sb bm br bo : Nat} {s : St} {c : Nat}

theorem step_same (h : Inv B w sb s c) (hb : Below w.heap.size w w1) : StepPost B w w1 sb s c := by
  obtain ⟨bm, br, bo, h1, h2, h3, h4, h5, h6, h7⟩ := h
  exact ⟨s, ⟨bm, br, bo, h1.later hb, good_same h2, h3, h4, h5, h6, Nat.le_trans h7 hb.size⟩, rfl, rfl, hb.mono h7⟩

theorem step_take (hS : SH w sb bm br bo s) (hG : Good s c) (b0 : B ≤ sb) (b1 : B ≤ bm) (b2 : B ≤ br) (b3 : B ≤ bo) (b4 : B ≤ w.heap.size) (hb : Below w.heap.size w w1) (i : Nat) (hi : i < 8) (hr : 0 < s.room (kb i))
    (hT : SH w2 sb bm br bo (s.take (kb i))) (hC : Ch [sb, bm] w1 w2) : StepPost B w w2 sb s c := by
  have hz := hb.size
  have hz2 := hC.size
  refine ⟨s.take (kb i), ⟨bm, br, bo, hT, good_take hG _ ⟨i, hi, rfl⟩ hr, b0, b1, b2, b3, by omega⟩, rfl, rfl, (hb.mono b4).trans (hC.below (by omega) (by simp; omega))⟩

theorem ended_TE (s : St) (k : List UInt8) (l : Ld) : (s.ended k l).T = s.T ∧ (s.ended k l).E = s.E := by
  unfold St.ended St.putBack
  split
  · exact ⟨rfl, rfl⟩
  · split
    · exact ⟨rfl, rfl⟩
    · split <;> exact ⟨rfl, rfl⟩

theorem step_give (hS : SH w sb bm br bo s) (hG : Good s c) (b0 : B ≤ sb) (b1 : B ≤ bm) (b2 : B ≤ br) (b3 : B ≤ bo) (b4 : B ≤ w.heap.size) (hb : Below w.heap.size w w1) (k : List UInt8) (l : Ld) (hl : s.by_ k = some l) (e : Int)
    (hP : GivePost w1 w2 sb bm br bo (s.ended k (l.after e s.E))) : StepPost B w w2 sb s c := by
  obtain ⟨br', bo', hT, hC, hB⟩ := hP
  have hz := hb.size
  have hz2 := hC.size
  obtain ⟨b5, b6⟩ := hB B b2 b3 (by omega)
  refine ⟨_, ⟨bm, br', bo', hT, good_ended hG _ _ hl e, b0, b1, b5, b6, by omega⟩, (ended_TE _ _ _).1, (ended_TE _ _ _).2, (hb.mono b4).trans (hC.below (by omega) (by simp; omega))⟩

theorem step_claim (hS : SH w sb bm br bo s) (hG : Good s c) (b0 : B ≤ sb) (b1 : B ≤ bm) (b2 : B ≤ br) (b3 : B ≤ bo) (b4 : B ≤ w.heap.size) (hb : Below w.heap.size w w1) {bR : Nat} (hP : ClaimPost w1 w2 sb bm br bo bR s) : StepPost B w w2 sb s c := by
  obtain ⟨hT, _, hC, _⟩ := hP
  have hz := hb.size
  have hz2 := hC.size
  refine ⟨_, ⟨bm, br, bo, hT, good_claim hG, b0, b1, b2, b3, by omega⟩, rfl, rfl, (hb.mono b4).trans (hC.below (by omega) (by simp; omega))⟩
end

set_option maxHeartbeats 2000000 in
theorem runOne_any {B : Nat} {w : World} {sb : Nat} {s : St} {c : Nat} (h : Inv B w sb s c) (hc : c ≤ 800000) (op : Int) (o0 : 0 ≤ op) (o1 : op ≤ 255) :
    Calls Trym.prog 14 #[.pointer (some ⟨sb, 0, none⟩), .int .u8 op] w fun e w' => e = .returned (.tuple #[]) ∧ StepPost B w w' sb s c := by
  obtain ⟨i, hi8, hi⟩ : ∃ i : Nat, i < 8 ∧ op % 8 = (i : Int) := ⟨(op % 8).toNat, by omega, by omega⟩
  have Hi : Hid (op % 8 = (i : Int)) := hi
  obtain ⟨bm, br, bo, hS, hG, b0, b1, b2, b3, b4⟩ := h
  have hI : Hid (Inv B w sb s c) := ⟨bm, br, bo, hS, hG, b0, b1, b2, b3, b4⟩
  have ok := hG.ok (by omega)
  have hL := hG.L1
  have hks := kn_size i
  clear hi
  have hd : op / 8 % 8 = 0 ∨ op / 8 % 8 = 1 ∨ op / 8 % 8 = 2 ∨ op / 8 % 8 = 3 ∨ op / 8 % 8 = 4 ∨ op / 8 % 8 = 5 ∨ op / 8 % 8 = 6 ∨ op / 8 % 8 = 7 := by omega
  go_enter Trym.func14, Trym.ntmps14
  go_wp2_with fail
  rw [Hi.out]
  refine (keyName_any i hi8 w).mono ?_
  rintro e w1 ⟨rfl, hb1⟩
  have hS1 := hS.later hb1
  rcases hd with hd | hd | hd | hd | hd | hd | hd | hd
  iterate 3
    · go_wp2_with fail
      refine (zzRoom_any hS1 ok _ hks).mono ?_
      rintro e w2 ⟨rfl, hb2⟩
      rw [kn_kb]
      have hb12 : Below w.heap.size w w2 := hb1.trans (hb2.mono hb1.size)
      by_cases hr : 0 < s.room (kb i)
      · go_wp2_with fail
        refine (zzTake_any (hS1.later hb2) ok _ hks).mono ?_
        rintro e w3 ⟨rfl, hT, hC⟩
        rw [kn_kb] at hT
        go_wp2
        go_end0
        exact ⟨rfl, step_take hS hG b0 b1 b2 b3 b4 hb12 i hi8 hr hT hC⟩
      · go_wp2
        go_end0
        exact ⟨rfl, step_same hI.out hb12⟩
  iterate 3
    · go_wp2_with fail
      refine (zzUnder_any hS1 _ hks).mono ?_
      rintro e w2 ⟨rfl, rfl⟩
      rw [kn_kb]
      unfold St.und
      cases hby : s.by_ (kb i) with
      | none =>
        have hz : (Option.getD none Ld.nil : Ld).u = 0 := rfl
        rw [hz]
        clear hz
        go_wp2
        go_end0
        exact ⟨rfl, step_same hI.out hb1⟩
      | some l =>
        have hz : (Option.getD (some l) Ld.nil : Ld).u = l.u := rfl
        rw [hz]
        clear hz
        have hu := (hG.by_ _ _ hby).2.1
        have hu' : 0 < l.u := by omega
        go_wp2_with fail
        refine (zzGive_any hS1 ok _ hks l (by rw [kn_kb]; exact hby) _ (by omega)).mono ?_
        rintro e w3 ⟨rfl, hP⟩
        rw [kn_kb] at hP
        go_wp2
        go_end0
        exact ⟨rfl, step_give hS hG b0 b1 b2 b3 b4 hb1 _ l hby _ hP⟩
  iterate 2
    · go_wp2_with fail
      refine (zzClaim_any hS1 ok (by omega)).mono ?_
      rintro e w3 ⟨bR, rfl, hP⟩
      go_wp2
      go_end0
      exact ⟨rfl, step_claim hS hG b0 b1 b2 b3 b4 hb1 hP⟩
end Go.Proofs.Qxb6001173aMods
