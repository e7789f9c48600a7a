/- A piece taken and ended: what becomes of the counts and of the key's room: no walk here. -/
import Derived.Test.Qxb6001173aModsW9
namespace Go.Proofs.Qxb6001173aMods
open Go.RowKit Go.Maps
set_option linter.unusedVariables false

theorem roomP_mono {free share E n w w' : Int} (h : w ≤ w' ∨ E ≤ w') (hs : 0 ≤ share) : roomP free share E n w ≤ roomP free share E n w' := by
  unfold roomP
  split <;> split <;> omega
theorem roomP_one {free share w : Int} (hf : 0 < free) : roomP free share 1 0 w ≤ roomP free share 1 0 0 := by
  unfold roomP
  split <;> split <;> omega

theorem good_entry {s : St} {c : Nat} (hG : Good s c) (k : List UInt8) : (s.by_ k = none ∧ (s.load k).u = 0) ∨ (s.by_ k = some (s.load k) ∧ 1 ≤ (s.load k).u) := by
  unfold St.load
  cases e : s.by_ k with
  | none =>
    left
    refine ⟨rfl, ?_⟩
    simp only []
    split <;> rfl
  | some l =>
    right
    exact ⟨rfl, (hG.by_ k l e).2.1⟩

def St.after (s : St) (k : List UInt8) (e : Int) : St := (s.take k).ended k ((s.load k).up.after e s.E)

theorem take_by (s : St) (k : List UInt8) : (s.take k).by_ k = some (s.load k).up := by
  simp [St.take, upd]

theorem putBack_NE (s : St) (k : List UInt8) (r : Rs) : (s.putBack k r).N = s.N ∧ (s.putBack k r).T = s.T ∧ (s.putBack k r).E = s.E := by
  unfold St.putBack
  split
  · exact ⟨rfl, rfl, rfl⟩
  · split <;> exact ⟨rfl, rfl, rfl⟩

theorem after_NE (s : St) (k : List UInt8) (e : Int) : (s.after k e).N = s.N ∧ (s.after k e).T = s.T ∧ (s.after k e).E = s.E := by
  have h0 : (s.take k).N - 1 = s.N := by
    simp only [St.take]
    omega
  unfold St.after St.ended
  split
  · exact ⟨h0, rfl, rfl⟩
  · obtain ⟨p1, p2, p3⟩ := putBack_NE { (s.take k) with N := (s.take k).N - 1, by_ := upd (s.take k).by_ k none, bn := (s.take k).bn - 1 } k (restOf ((s.load k).up.after e s.E) (s.take k).L)
    exact ⟨p1.trans h0, p2, p3⟩

theorem putBack_by (s : St) (k : List UInt8) (r : Rs) : (s.putBack k r).by_ = s.by_ ∧ (s.putBack k r).bn = s.bn ∧ (s.putBack k r).L = s.L := by
  unfold St.putBack
  split
  · exact ⟨rfl, rfl, rfl⟩
  · split <;> exact ⟨rfl, rfl, rfl⟩

theorem after_by {s : St} {c : Nat} (hG : Good s c) (k : List UInt8) (e : Int) : (∀ x, (s.after k e).und x = s.und x) ∧ (s.after k e).bn = s.bn ∧ (s.after k e).L = s.L := by
  have hu : ((s.load k).up.after e s.E).u = (s.load k).u := by
    unfold Ld.after Ld.up
    simp only []
    omega
  unfold St.after St.ended
  rw [hu]
  rcases good_entry hG k with ⟨h1, h2⟩ | ⟨h1, h2⟩
  · rw [if_neg (by omega)]
    obtain ⟨p1, p2, p3⟩ := putBack_by { (s.take k) with N := (s.take k).N - 1, by_ := upd (s.take k).by_ k none, bn := (s.take k).bn - 1 } k (restOf ((s.load k).up.after e s.E) (s.take k).L)
    refine ⟨fun x => ?_, ?_, ?_⟩
    · unfold St.und
      rw [p1]
      simp only [St.take, upd]
      by_cases hx : x = k
      · subst hx
        simp [h1]
      · simp [hx]
    · rw [p2]
      simp [St.take, h1]
    · rw [p3]
      rfl
  · rw [if_pos (by omega)]
    refine ⟨fun x => ?_, ?_, rfl⟩
    · unfold St.und
      simp only [St.take, upd]
      by_cases hx : x = k
      · subst hx
        simp only [if_pos, Option.getD_some]
        rw [hu, h1]
        rfl
      · simp [hx]
    · simp [St.take, h1]

/-- What the key's counts read as behind it: the same pieces under way; the window. -/
theorem after_load {s : St} {c : Nat} (hG : Good s c) (k : List UInt8) (e : Int) (he : e = 1 ∨ e = 2) :
    ((s.after k e).load k).u = (s.load k).u ∧ (((s.after k e).load k).w = ((s.load k).up.after e s.E).w ∨ (((s.after k e).load k).w = 0 ∧ (s.load k).u = 0 ∧ ((s.load k).up.after e s.E).w ≤ 1)) := by
  have hu : ((s.load k).up.after e s.E).u = (s.load k).u := by
    unfold Ld.after Ld.up
    simp only []
    omega
  have hg : ((s.load k).up.after e s.E).g = 0 := by
    unfold Ld.after
    rcases he with rfl | rfl <;> simp
  have hw : 0 ≤ ((s.load k).up.after e s.E).w := by
    have := good_load hG k
    have := hG.E0
    unfold Ld.after Ld.up
    rcases he with rfl | rfl <;> simp <;> omega
  rcases good_entry hG k with ⟨h1, h2⟩ | ⟨h1, h2⟩
  · have hby : (s.after k e).by_ k = none := by
      unfold St.after St.ended
      rw [if_neg (by omega), (putBack_by _ _ _).1]
      simp [upd]
    generalize hm : (s.load k).up.after e s.E = m at *
    have hL : (s.after k e).L = s.L := (after_by hG k e).2.2
    have hrest : (m.w ≤ 1 ∧ (s.after k e).rest k = ⟨0, 0⟩) ∨ (s.after k e).rest k = ⟨m.w, s.L + 1⟩ := by
      have hr : restOf m (s.take k).L = ⟨m.w, s.L + 1⟩ := by
        unfold restOf
        rw [hg]
        have : max m.w 0 = m.w := by omega
        rw [this]
        rfl
      unfold St.after St.ended
      rw [hm, if_neg (by omega), hr]
      unfold St.putBack
      simp only []
      split
      · rename_i hc
        left
        refine ⟨hc, ?_⟩
        unfold St.rest
        simp [upd, Rs.nil]
      · right
        split
        · unfold St.rest
          simp [upd]
        · unfold St.rest
          simp [upd]
    unfold St.load at *
    rw [hby, hL]
    simp only []
    rw [h1] at h2 ⊢
    simp only [] at h2 ⊢
    rcases hrest with ⟨hc, hr⟩ | hr
    · rw [hr]
      refine ⟨?_, .inr ⟨?_, h2, hc⟩⟩
      · rw [h2]; split <;> rfl
      · split <;> rfl
    · rw [hr]
      simp only []
      rw [if_pos (by omega)]
      refine ⟨h2.symm, .inl rfl⟩
  · have hby : (s.after k e).by_ k = some ((s.load k).up.after e s.E) := by
      unfold St.after St.ended
      rw [if_pos (by omega)]
      simp [upd]
    have hl : (s.after k e).load k = (s.load k).up.after e s.E := by
      unfold St.load
      rw [hby]
      rfl
    rw [hl]
    exact ⟨hu, .inl rfl⟩

theorem after_room {s : St} {c : Nat} (hG : Good s c) (hc : c ≤ 900000) (k : List UInt8) (hr : 0 < s.room k) (e : Int) (he : e = 1 ∨ e = 2) :
    (e = 1 → s.room k ≤ (s.after k e).room k) ∧ (e = 2 → (s.after k e).room k ≤ s.room k) := by
  obtain ⟨n1, n2, n3⟩ := after_NE s k e
  obtain ⟨_, b1, _⟩ := after_by hG k e
  obtain ⟨l1, l2⟩ := after_load hG k e he
  have hl := good_load hG k
  have hE0 := hG.E0
  have hsh := (share_bd (hG.ok hc) (s.load k).u).1
  have hf : (s.after k e).free = s.free := by unfold St.free; rw [n1, n2]
  have hs : ∀ n, (s.after k e).share n = s.share n := fun n => by unfold St.share; rw [n2, b1]
  have hroom : (s.after k e).room k = roomP s.free (s.share (s.load k).u) s.E (s.load k).u ((s.after k e).load k).w := by
    unfold St.room St.roomW
    rw [hf, l1, hs, n3]
  have hroom0 : s.room k = roomP s.free (s.share (s.load k).u) s.E (s.load k).u (s.load k).w := rfl
  have hp := roomP_pos (hroom0 ▸ hr)
  rw [hroom, hroom0]
  constructor
  · rintro rfl
    have hw : ((s.load k).up.after 1 s.E).w = min s.E (max (max (s.load k).w ((s.load k).u + 1)) (s.load k).g + 1) := by
      simp [Ld.after, Ld.up]
    rcases l2 with l2 | ⟨l2, l3, l4⟩
    · rw [l2, hw]
      exact roomP_mono (by omega) hsh
    · rw [hw] at l4
      have hE1 : s.E = 1 := by omega
      rw [l2, l3, hE1]
      exact roomP_one (by omega)
  · rintro rfl
    have hw : ((s.load k).up.after 2 s.E).w = 0 := by simp [Ld.after]
    rw [hw] at l2
    have h0 : ((s.after k 2).load k).w = 0 := by
      rcases l2 with l2 | ⟨l2, _, _⟩
      · exact l2
      · exact l2
    rw [h0]
    exact roomP_mono (by omega) hsh
end Go.Proofs.Qxb6001173aMods
