/- Walks: give. -/
import Derived.Test.Qxb6001173aModsW2
import Derived.Deep.DeepCutAuto
import Derived.Deep.CutBlock
namespace Go.Proofs.Qxb6001173aMods
open Go.RowKit Go.Maps
set_option linter.unusedVariables false

/-- What a key's counts are once one of its pieces has ended as e says. -/
def Ld.after (l : Ld) (e E : Int) : Ld :=
  ⟨l.u - 1, if e = 1 then min E (max l.w l.g + 1) else if e = 2 then 0 else l.w, if e = 1 then 0 else if e = 2 then 0 else l.g⟩
def St.putBack (s : St) (k : List UInt8) (r : Rs) : St :=
  if r.w ≤ 1 then { s with re := upd s.re k none, rn := if (s.re k).isSome then s.rn - 1 else s.rn, ol := upd s.ol k none, on_ := if (s.ol k).isSome then s.on_ - 1 else s.on_ }
  else if s.T ≤ (s.rn : Int) then { s with ol := s.re, on_ := s.rn, re := upd (fun _ => none) k (some r), rn := 1 }
  else { s with re := upd s.re k (some r), rn := if (s.re k).isSome then s.rn else s.rn + 1 }
def restOf (l : Ld) (L : Int) : Rs := ⟨max l.w l.g, if l.g = 0 then L + 1 else -1⟩
def St.ended (s : St) (k : List UInt8) (l : Ld) : St :=
  if 0 < l.u then { s with N := s.N - 1, by_ := upd s.by_ k (some l) }
  else ({ s with N := s.N - 1, by_ := upd s.by_ k none, bn := s.bn - 1 } : St).putBack k (restOf l s.L)

theorem SH.setRe {w w' : World} {sb bm br bo : Nat} {s : St} (h : SH w sb bm br bo s) {f : List UInt8 → Option Rs} {n : Nat} (hm : MapV w' br Rs.val f n) (hc : Ch [br] w w') : SH w' sb bm br bo { s with re := f, rn := n } :=
  ⟨h.blk.of_block (hc.block _ h.blk.lt (by simpa using h.sr)), h.m.of_block (hc.block _ h.m.lt (by simpa using h.mr)), hm, h.o.of_block (hc.block _ h.o.lt (by simpa using h.ro.symm)), h.mr, h.mo, h.ro⟩
theorem SH.setOl {w w' : World} {sb bm br bo : Nat} {s : St} (h : SH w sb bm br bo s) {f : List UInt8 → Option Rs} {n : Nat} (hm : MapV w' bo Rs.val f n) (hc : Ch [bo] w w') : SH w' sb bm br bo { s with ol := f, on_ := n } :=
  ⟨h.blk.of_block (hc.block _ h.blk.lt (by simpa using h.so)), h.m.of_block (hc.block _ h.m.lt (by simpa using h.mo)), h.r.of_block (hc.block _ h.r.lt (by simpa using h.ro)), hm, h.mr, h.mo, h.ro⟩

def GivePost (w w' : World) (sb bm br bo : Nat) (s' : St) : Prop :=
  ∃ br' bo', SH w' sb bm br' bo' s' ∧ Ch [sb, bm, br, bo] w w' ∧ (∀ B, B ≤ br → B ≤ bo → B ≤ w.heap.size → B ≤ br' ∧ B ≤ bo')

set_option maxRecDepth 100000 in
set_option maxHeartbeats 1000000 in
theorem give_core {w : World} {sb bm br bo : Nat} {s : St} (h : SH w sb bm br bo s) (ok : s.Ok) (k : ByteArray) (hk : k.size ≤ maxLen) (u v g : Int) (hl : s.by_ k.data.toList = some ⟨u, v, g⟩) (e : Int) (he : e = 0 ∨ e = 1 ∨ e = 2) :
    Calls Trym.prog 41 #[.pointer (some ⟨sb, 0, none⟩), .string k, .int .i64 e] w fun e' w' => e' = .returned (.tuple #[]) ∧ GivePost w w' sb bm br bo (s.ended k.data.toList ((⟨u, v, g⟩ : Ld).after e s.E)) := by
  obtain ⟨ub, uc, vb, vc, gb, gc⟩ := ok.by_ _ _ hl
  have hN := ok.N0
  have hN' := ok.N1
  have hE := ok.E0
  have hE' := ok.E1
  have hL := ok.L0
  have hL' := ok.L1
  have hbn := ok.bn
  have c2 := h.blk.c2
  have c3 := h.blk.c3
  have f2 := h.blk.fr 2
  go_enter Trym.func41, Trym.ntmps41
  go_wp2_with fail
  have ha := h.setN (s.N - 1)
  have hca := Ch.setCell w ⟨sb, 2, none⟩ (.int .i64 (s.N - 1))
  generalize w.setCell ⟨sb, 2, none⟩ (.int .i64 (s.N - 1)) = wa at *
  have hrun := ha.m.look_plain Trym.underlying49 (zero61 _) hk
  rw [look_ld hl] at hrun
  simp only [] at hrun
  rw [hrun]
  go_upto_block 0 with fail
  go_cut [] (fun wc => ∃ A G : Int, (A = ((⟨u, v, g⟩ : Ld).after e s.E).w ∧ G = ((⟨u, v, g⟩ : Ld).after e s.E).g) ∧ SH wc sb bm br bo { s with N := s.N - 1 } ∧
      wc.heap[wa.heap.size]? = some (.cells #[.int .i64 (u - 1), .int .i64 A, .int .i64 G] 61 (0, 0)) ∧ Ch [sb] w wc)
  case first =>
    have c1 := ha.blk.c1
    have hb := ha.blk.lt
    clear hrun hl ok h c2 c3 f2
    simp only at c1
    have hnew : ∀ o, Ch [] wa (wa.alloc o) := fun o => Ch.alloc wa o []
    rcases he with rfl | rfl | rfl
    · go_wp2
      go_meet
      case rel => exact ⟨v, g, ⟨rfl, rfl⟩, ha.kept (hnew _) (by simp) (by simp) (by simp) (by simp), heap_alloc_new wa _, hca.trans (Ch.alloc _ _ _)⟩
    · go_wp2
      go_region
      all_goals go_wp2
      all_goals go_meet
      case rel => exact ⟨_, _, ⟨rfl, rfl⟩, (ha.kept (hnew _) (by simp) (by simp) (by simp) (by simp)).kept (Ch.drew _ []) (by simp) (by simp) (by simp) (by simp), heap_alloc_new wa _, hca.trans ((Ch.alloc _ _ _).trans (Ch.drew _ _))⟩
    · go_wp2
      go_meet
      case rel => exact ⟨_, _, ⟨rfl, rfl⟩, ha.kept (hnew _) (by simp) (by simp) (by simp) (by simp), heap_alloc_new wa _, hca.trans (Ch.alloc _ _ _)⟩
  case rest =>
    obtain ⟨A, G, hAG, hc, hbx, hcc⟩ := hcut
    have hAb : 0 ≤ A ∧ A ≤ 1000001 ∧ 0 ≤ G ∧ G ≤ 1000001 := by
      rw [hAG.1, hAG.2]; unfold Ld.after; rcases he with rfl | rfl | rfl <;> simp <;> omega
    have HQ : Hid ((⟨u, v, g⟩ : Ld).after e s.E = ⟨u - 1, A, G⟩) := by rw [hAG.1, hAG.2]; rfl
    obtain ⟨Ab, Ac, Gb, Gc⟩ := hAb
    clear hAG he vb vc gb gc hca
    have hlt := (Array.getElem?_eq_some_iff.1 hbx).1
    generalize wa.heap.size = bx at *
    have k0 : wc.cell? ⟨bx, 0, none⟩ = some (.int .i64 (u - 1)) := cell_of_row hbx 0
    have k1 : wc.cell? ⟨bx, 1, none⟩ = some (.int .i64 A) := cell_of_row hbx 1
    have k2 : wc.cell? ⟨bx, 2, none⟩ = some (.int .i64 G) := cell_of_row hbx 2
    have d3 := hc.blk.c3
    have hb := hc.blk.lt
    clear ha hrun c2 c3 f2
    by_cases hu : 0 < u - 1
    · obtain ⟨w2, hrun, hV2, hturn⟩ := (hc.kept (Ch.drew _ []) (by simp) (by simp) (by simp) (by simp)).m.store Trym.underlying49 (by unfold maxLen; simp; omega) hk ⟨u - 1, A, G⟩
      simp only [Ld.val] at hrun
      have hfin : SH w2 sb bm br bo (s.ended k.data.toList ((⟨u, v, g⟩ : Ld).after e s.E)) := by
        rw [HQ.out]
        have := (hc.kept (Ch.drew _ []) (by simp) (by simp) (by simp) (by simp)).setBy hV2 (Ch.of_turned hturn)
        unfold St.ended
        rw [if_pos hu]
        simpa [hl] using this
      have hf2 : Ch [sb, bm, br, bo] w w2 := ((hcc.trans (Ch.drew _ _)).mono (by simp)).trans ((Ch.of_turned hturn).mono (by simp))
      clear hV2 hturn hc hbx hcc hl h ok
      go_wp2
      go_region
      all_goals go_wp2
      all_goals exact bodyPost_ret (results_none rfl _ _ _) rfl ⟨rfl, br, bo, hfin, hf2, fun B h1 h2 _ => ⟨h1, h2⟩⟩
    · obtain ⟨w2, hrun, hV2, hturn⟩ := hc.m.drop Trym.underlying49 hk 0
      have hch2 := Ch.of_turned hturn
      have hnb : bx ≠ bm := hc.m.not_cells hbx
      have hbx2 := (hch2.block bx hlt (by simpa using hnb)).trans hbx
      have h2 := hc.setBy hV2 hch2
      have hf2 : Ch [sb, bm] w w2 := (hcc.mono (by simp)).trans (hch2.mono (by simp))
      simp only [hl, Option.isSome_some, if_true] at h2
      have hlt2 := (Array.getElem?_eq_some_iff.1 hbx2).1
      have m1 : w2.cell? ⟨bx, 1, none⟩ = some (.int .i64 A) := cell_of_row hbx2 1
      have m2 : w2.cell? ⟨bx, 2, none⟩ = some (.int .i64 G) := cell_of_row hbx2 2
      have d4 := h2.blk.c4
      have hb2 := h2.blk.lt
      clear hV2 hturn hch2 hnb hc hcc hbx
      go_upto_if 67 with fail
      go_cut [] (fun wd => ∃ t : Int, (t = if G = 0 then s.L + 1 else -1) ∧ SH wd sb bm br bo { s with N := s.N - 1, by_ := upd s.by_ k.data.toList none, bn := s.bn - 1 } ∧
        wd.heap[w2.heap.size]? = some (.cells #[.int .i64 (max A G), .int .i64 t] 69 (0, 0)) ∧ Ch [sb, bm] w wd)
      case first =>
        have hnew : ∀ o, SH (w2.alloc o) sb bm br bo { s with N := s.N - 1, by_ := upd s.by_ k.data.toList none, bn := s.bn - 1 } := fun o => h2.kept (Ch.alloc w2 o []) (by simp) (by simp) (by simp) (by simp)
        by_cases hG : (G == 0) = true
        · go_wp2
          go_meet
          case rel => exact ⟨_, by rw [if_pos (by simpa using hG)], hnew _, heap_alloc_new w2 _, hf2.trans (Ch.alloc _ _ _)⟩
        · have hG' : (G == 0) = false := by simpa using hG
          clear hG
          go_wp2
          go_meet
          case rel => exact ⟨_, by rw [if_neg (by simpa using hG')], hnew _, heap_alloc_new w2 _, hf2.trans (Ch.alloc _ _ _)⟩
      case rest =>
        obtain ⟨t, ht, hd, hrx, hfd⟩ := hcut
        have HS : Hid (s.ended k.data.toList ((⟨u, v, g⟩ : Ld).after e s.E) = ({ s with N := s.N - 1, by_ := upd s.by_ k.data.toList none, bn := s.bn - 1 } : St).putBack k.data.toList ⟨max A G, t⟩) := by
          rw [HQ.out]
          unfold St.ended Hid restOf
          rw [if_neg (by simpa using hu), ht]
        have htb : -1 ≤ t ∧ t ≤ 1000001 := by rw [ht]; split <;> omega
        obtain ⟨tb, tc⟩ := htb
        clear HQ ht h2 hf2 d4 hb2 m1 m2 hlt2 hbx2 hrun k0 k1 k2 d3 hlt hb
        have hltr := (Array.getElem?_eq_some_iff.1 hrx).1
        generalize w2.heap.size = rx at *
        have hsr := hd.r.not_cells hrx
        have hso := hd.o.not_cells hrx
        have q0 : wc.cell? ⟨rx, 0, none⟩ = some (.int .i64 (max A G)) := cell_of_row hrx 0
        have q1 : wc.cell? ⟨rx, 1, none⟩ = some (.int .i64 t) := cell_of_row hrx 1
        have d5 := hd.blk.c5
        have hbd := hd.blk.lt
        by_cases hw : max A G ≤ 1
        · obtain ⟨w4, hrun4, hV4, hturn4⟩ := hd.r.drop Trym.underlying50 hk 0
          have h4 := hd.setRe hV4 (Ch.of_turned hturn4)
          obtain ⟨w5, hrun5, hV5, hturn5⟩ := h4.o.drop Trym.underlying50 hk 0
          have h5 := h4.setOl hV5 (Ch.of_turned hturn5)
          have hfin : SH w5 sb bm br bo (s.ended k.data.toList ((⟨u, v, g⟩ : Ld).after e s.E)) := by
            rw [HS.out]
            unfold St.putBack
            rw [if_pos hw]
            exact h5
          have hf5 : Ch [sb, bm, br, bo] w w5 := ((hfd.mono (by simp)).trans ((Ch.of_turned hturn4).mono (by simp))).trans ((Ch.of_turned hturn5).mono (by simp))
          have d6 := h4.blk.c6
          clear hV4 hV5 hturn4 hturn5 h4 h5 hd hl h ok HS
          go_wp2
          exact bodyPost_ret (results_none rfl _ _ _) rfl ⟨rfl, br, bo, hfin, hf5, fun B h1 h2 _ => ⟨h1, h2⟩⟩
        · have hw' : 1 < max A G := by omega
          have d0 := hd.blk.c0
          have hlen : ∀ n ty, (Builtin.len_ #[50] ty #[.map (some br)]).run Trym.prog (wc.drewN n) = .ok (.int .i64 s.rn) (wc.drewN n) := fun n ty => (hd.kept (Ch.drewN _ n []) (by simp) (by simp) (by simp) (by simp)).r.len Trym.underlying50 ty
          have hrn := ok.rn
          have hT := ok.T0
          have hT' := ok.T1
          have hmm := @run_makeMap Trym.prog
          by_cases hTr : s.T ≤ (s.rn : Int)
          · have hal : ∀ n, SH ((wc.drewN n).alloc (.map #[] 0)) sb bm br bo { s with N := s.N - 1, by_ := upd s.by_ k.data.toList none, bn := s.bn - 1 } := fun n => (hd.kept (Ch.drewN _ n []) (by simp) (by simp) (by simp) (by simp)).kept (Ch.alloc _ _ []) (by simp) (by simp) (by simp) (by simp)
            have e5 := fun n => (hal n).blk.c5
            have e6 := fun n => (hal n).blk.c6
            have fz := fun n i => (hal n).blk.fr i
            have d6 := hd.blk.c6
            go_wp2
            go_quiet (fail)
            go_wp2
            have hN6 := (((hal nq).blk.setO br).setR wc.heap.size)
            have hcO := Ch.setCell ((wc.drewN nq).alloc (.map #[] 0)) ⟨sb, 6, none⟩ (.map (some br))
            have hcR := Ch.setCell (((wc.drewN nq).alloc (.map #[] 0)).setCell ⟨sb, 6, none⟩ (.map (some br))) ⟨sb, 5, none⟩ (.map (some wc.heap.size))
            have hcA : Ch [sb] wc ((((wc.drewN nq).alloc (.map #[] 0)).setCell ⟨sb, 6, none⟩ (.map (some br))).setCell ⟨sb, 5, none⟩ (.map (some wc.heap.size))) := ((Ch.drewN _ nq _).trans (Ch.alloc _ _ _)).trans (hcO.trans hcR)
            have hmade : MapV ((wc.drewN nq).alloc (.map #[] 0)) wc.heap.size Rs.val (fun _ => none) 0 := mapV_made (wc.drewN nq) Rs.val
            have hmade2 := (hmade.of_block (hcO.block _ hmade.lt (by simp; omega)))
            have hmade3 := (hmade2.of_block (hcR.block _ hmade2.lt (by simp; omega)))
            have h6 : SH ((((wc.drewN nq).alloc (.map #[] 0)).setCell ⟨sb, 6, none⟩ (.map (some br))).setCell ⟨sb, 5, none⟩ (.map (some wc.heap.size))) sb bm wc.heap.size br
                { s with N := s.N - 1, by_ := upd s.by_ k.data.toList none, bn := s.bn - 1, re := fun _ => none, rn := 0, ol := s.re, on_ := s.rn } :=
              ⟨hN6, hd.m.of_block (hcA.block _ hd.m.lt (by simpa using hd.sm.symm)), hmade3, hd.r.of_block (hcA.block _ hd.r.lt (by simpa using hd.sr.symm)), fun e1 => by have := hd.m.lt; omega, hd.mr, fun e1 => by have := hd.r.lt; omega⟩
            have hrx6 := (hcA.block rx hltr (by simp; intro e1; subst e1; rw [hd.blk] at hrx; simp at hrx)).trans hrx
            clear hmade hmade2 hmade3 hcO hcR hN6 hal e5 e6 fz
            generalize (((wc.drewN nq).alloc (.map #[] 0)).setCell ⟨sb, 6, none⟩ (.map (some br))).setCell ⟨sb, 5, none⟩ (.map (some wc.heap.size)) = w6 at *
            obtain ⟨w7, hrun7, hV7, hturn7⟩ := (h6.kept (Ch.drew _ []) (by simp) (by simp) (by simp) (by simp)).r.store Trym.underlying50 (by unfold maxLen; simp) hk ⟨max A G, t⟩
            simp only [Rs.val] at hrun7
            have h7 := (h6.kept (Ch.drew _ []) (by simp) (by simp) (by simp) (by simp)).setRe hV7 (Ch.of_turned hturn7)
            have hfin : SH w7 sb bm wc.heap.size br (s.ended k.data.toList ((⟨u, v, g⟩ : Ld).after e s.E)) := by
              rw [HS.out]
              unfold St.putBack
              rw [if_neg (by simpa using hw), if_pos (by simpa using hTr)]
              exact h7
            have hf7 : Ch [sb, bm, br, bo] w w7 := ((hfd.andThen (hcA.trans (Ch.drew _ _)) (by simp)).andThen (Ch.of_turned hturn7) (fun i hi => by simp at hi; subst hi; exact .inr hfd.size)).mono (by simp)
            have hwz := hfd.size
            have x0 : w6.cell? ⟨rx, 0, none⟩ = some (.int .i64 (max A G)) := cell_of_row hrx6 0
            have x1 : w6.cell? ⟨rx, 1, none⟩ = some (.int .i64 t) := cell_of_row hrx6 1
            have x5 := h6.blk.c5
            clear hV7 hturn7 h7 h6 hd hl h ok HS hlen hmm hcA hrx hrx6 q0 q1 d5 d6 d0
            go_region
            all_goals go_wp2
            all_goals exact bodyPost_end (results_none rfl _ _ _) rfl ⟨rfl, wc.heap.size, br, hfin, hf7, fun B h1 h2 h3 => ⟨by omega, h1⟩⟩
          · obtain ⟨nq0, hnq0⟩ : ∃ n : Nat, n = 0 := ⟨0, rfl⟩
            go_wp2
            go_quiet (fail)
            go_wp2
            obtain ⟨w4, hrun4, hV4, hturn4⟩ := (hd.kept (Ch.drewN _ (nq + 1) []) (by simp) (by simp) (by simp) (by simp)).r.store Trym.underlying50 (by unfold maxLen; simp; omega) hk ⟨max A G, t⟩
            simp only [Rs.val] at hrun4
            have h4 := (hd.kept (Ch.drewN _ (nq + 1) []) (by simp) (by simp) (by simp) (by simp)).setRe hV4 (Ch.of_turned hturn4)
            have hfin : SH w4 sb bm br bo (s.ended k.data.toList ((⟨u, v, g⟩ : Ld).after e s.E)) := by
              rw [HS.out]
              unfold St.putBack
              rw [if_neg (by simpa using hw), if_neg (by simpa using hTr)]
              exact h4
            have hf4 : Ch [sb, bm, br, bo] w w4 := ((hfd.mono (by simp)).trans (Ch.drewN _ (nq + 1) _)).trans ((Ch.of_turned hturn4).mono (by simp))
            clear hV4 hturn4 h4 hd hl h ok HS hlen hmm
            go_region
            all_goals go_wp2
            all_goals exact bodyPost_end (results_none rfl _ _ _) rfl ⟨rfl, br, bo, hfin, hf4, fun B h1 h2 _ => ⟨h1, h2⟩⟩

theorem give_any {w : World} {sb bm br bo : Nat} {s : St} (h : SH w sb bm br bo s) (ok : s.Ok) (k : ByteArray) (hk : k.size ≤ maxLen) (l : Ld) (hl : s.by_ k.data.toList = some l) (e : Int) (he : e = 0 ∨ e = 1 ∨ e = 2) :
    Calls Trym.prog 41 #[.pointer (some ⟨sb, 0, none⟩), .string k, .int .i64 e] w fun e' w' => e' = .returned (.tuple #[]) ∧ GivePost w w' sb bm br bo (s.ended k.data.toList (l.after e s.E)) :=
  give_core h ok k hk l.u l.w l.g hl e he

end Go.Proofs.Qxb6001173aMods
