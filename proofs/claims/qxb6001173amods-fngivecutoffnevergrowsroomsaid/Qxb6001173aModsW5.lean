/- Walks: claim. -/
import Derived.Test.Qxb6001173aModsW4
namespace Go.Proofs.Qxb6001173aMods
open Go.RowKit Go.Maps
set_option linter.unusedVariables false
attribute [local go_sem] cell_alloc_map frozen_alloc_map

def ClaimPost (w w' : World) (sb bm br bo bR : Nat) (s : St) : Prop :=
  SH w' sb bm br bo { s with L := s.L + 1 } ∧ MapV w' bR (Value.int .i64) (fun k => (s.by_ k).map s.croom) s.bn ∧ Ch [sb] w w' ∧ w.heap.size ≤ bR

set_option maxRecDepth 100000 in
set_option maxHeartbeats 1000000 in
theorem claim_crowded {w : World} {sb bm br bo : Nat} {s : St} (h : SH w sb bm br bo s) (ok : s.Ok) (hL : s.L < 1000000) (hcr : s.first ≤ 1) :
    Calls Trym.prog 38 #[.pointer (some ⟨sb, 0, none⟩)] w fun e w' => ∃ bR, e = .returned (.tuple #[.map (some bR), .int .i64 s.first, .int .i64 s.free]) ∧ ClaimPost w w' sb bm br bo bR s := by
  have c4 := h.blk.c4
  have f4 := h.blk.fr 4
  have hL0 := ok.L0
  have hbn := ok.bn
  have ok1 := ok.looked (s.L + 1) (by omega) (by omega)
  have hmm := run_makeMap_hint39
  go_enter Trym.func38, Trym.ntmps38
  go_wp2_with fail
  have ha := h.setL (s.L + 1)
  have hca := Ch.setCell w ⟨sb, 4, none⟩ (.int .i64 (s.L + 1))
  generalize w.setCell ⟨sb, 4, none⟩ (.int .i64 (s.L + 1)) = wa at *
  refine (roomWith_any ha ok1 0 0 (by omega) (by omega) (by omega) (by omega)).mono ?_
  rintro e w' ⟨rfl, k1, rfl⟩
  have hfirst : ({ s with L := s.L + 1 } : St).roomW 0 0 = s.first := rfl
  rw [hfirst]
  clear hfirst
  go_wp2_with fail
  refine (free_any (drewN_SH ha k1) ok1).mono ?_
  rintro e w' ⟨rfl, k2, rfl⟩
  have hfree : ({ s with L := s.L + 1 } : St).free = s.free := rfl
  rw [hfree]
  clear hfree
  have d3 := ha.blk.c3
  have hlen : ∀ n ty, (Builtin.len_ #[49] ty #[.map (some bm)]).run Trym.prog (wa.drewN n) = .ok (.int .i64 s.bn) (wa.drewN n) := fun n ty => (drewN_SH ha n).m.len Trym.underlying49 ty
  have hb := ha.blk.lt
  go_wp2_with (first | (at_range; refine wpList_rangeV _ rfl _ 49 61 rfl Trym.underlying49 rfl (ha.m.of_block (Ch.block (((Ch.drewN wa (k1 + k2) []).trans (Ch.alloc _ (.map #[] 0) []))) bm ha.m.lt (by simp))) ?_; intro w0 hrg0 hg0 hs0))
  have e1 : ((wa.drewN (k1 + k2)).alloc (Obj.map #[] 0)).heap.size = wa.heap.size + 1 := by simp
  rw [e1] at hrg0 hs0
  have hc0 : Ch [sb] wa w0 := ((Ch.drewN wa (k1 + k2) _).trans (Ch.alloc _ (.map #[] 0) _)).trans (Ch.of_grown_none hg0 _)
  have hc0' : Ch [] wa w0 := ((Ch.drewN wa (k1 + k2) _).trans (Ch.alloc _ (.map #[] 0) _)).trans (Ch.of_grown_none hg0 _)
  have hmade : MapV w0 wa.heap.size (Value.int .i64) (fun _ => none) 0 := (mapV_made (wa.drewN (k1 + k2)) (Value.int .i64)).of_block (hg0.block _ (by simp) (by simp))
  have hstart : ClaimRel w sb bm br bo wa.heap.size (wa.heap.size + 1) s w0 :=
    ⟨_, _, 0, hrg0, fun k hk => hk, hmade.congr (fun k => by cases s.by_ k <;> simp), by omega, ha.kept hc0' (by simp) (by simp) (by simp) (by simp), hca.trans hc0⟩
  have hR : w.heap.size ≤ wa.heap.size := hca.size
  have hnm : wa.heap.size ≠ bm := fun e => by have := ha.m.lt; omega
  have hnr : wa.heap.size ≠ br := fun e => by have := ha.r.lt; omega
  have hno : wa.heap.size ≠ bo := fun e => by have := ha.o.lt; omega
  clear hmade hc0 hc0' hg0 hrg0 hs0 e1 hlen d3 hmm c4 f4 ha hca h hb
  generalize wa.heap.size = bR at *
  clear wa
  go_loopw [6] (fun _ wr => ClaimRel w sb bm br bo bR (bR + 1) s wr) (fun _ wr => wr.rangeLeft bm (bR + 1))
  case atStart => exact hstart
  case round =>
    obtain ⟨left, cnt, m, hrg, hsub, hV, hm, hS, hC⟩ := hrel
    go_wp2_with (first | (at_next; refine wpList_nextLd _ rfl _ rfl rfl hrg ?_ ?_))
    · intro hc0 hl0
      go_wp2
      go_ret3
      refine ⟨bR, rfl, hS, ?_, hC, hR⟩
      have hV' : MapV wr bR (Value.int .i64) (fun k => (s.by_ k).map s.croom) m := hV.congr (fun k => by simp [hl0])
      have := hV'.size_eq hS.m (fun k => by simp)
      rw [this] at hV'
      exact hV'
    · intro k l w1 cnt1 hk hlk hx hrg1 hlt hg1 hs1 hen
      have hc1 := Ch.of_grown hg1
      have s1 : SH w1 sb bm br bo { s with L := s.L + 1 } := hS.kept hc1 (by simpa using hrg.not_cells hS.blk) (by simpa using hrg.not_map hS.m) (by simpa using hrg.not_map hS.r) (by simpa using hrg.not_map hS.o)
      have hlo := ok.by_ _ _ hx
      obtain ⟨ub, uc, vb, vc, gb, gc⟩ := hlo
      have hlt' := hlt
      have hsub' := hsub
      have Hx : Hid (s.by_ k.data.toList = some l) := hx
      have Hlk : Hid (left k.data.toList = true) := hlk
      clear hs1 hlt hx hlk
      have hRr := hrg.not_map hV
      have hV1 := hV.of_block (hc1.block _ hV.lt (by simp))
      go_wp2_with fail
      have hbx : ∀ o n, Below w1.heap.size w1 ((w1.alloc o).drewN n) := fun o n => below_drewN ((Below.refl _ _).alloc (Nat.le_refl _) o) n
      refine (roomWith_any (s1.later ((Below.refl _ _).alloc (Nat.le_refl _) _)) ok1 l.u l.w ub uc vb vc).mono ?_
      rintro e w' ⟨rfl, n1, rfl⟩
      have hroom : ({ s with L := s.L + 1 } : St).roomW l.u l.w = s.roomW l.u l.w := rfl
      rw [hroom]
      clear hroom
      have hrb := roomP_bd (free := s.free) (share := s.share l.u) (win := l.w) ok.E1 ub
      have hrb' : 0 ≤ s.roomW l.u l.w ∧ s.roomW l.u l.w ≤ 65536 := hrb
      obtain ⟨rb0, rb1⟩ := hrb'
      obtain ⟨sh0, sh1⟩ := share_bd ok l.u
      have HCR : Hid (∀ R S, R = s.roomW l.u l.w → S = s.share l.u → s.croom l = max 0 (min R (S - l.u))) := by
        intro R S h1 h2
        subst h1 h2
        unfold St.croom
        rw [if_pos hcr]
      have hbW := hbx (Obj.cells #[.int .i64 l.u, .int .i64 l.w, .int .i64 l.g] 61) n1
      have sW := s1.later hbW
      have hW0 : ((w1.alloc (Obj.cells #[.int .i64 l.u, .int .i64 l.w, .int .i64 l.g] 61)).drewN n1).cell? ⟨w1.heap.size, 0, none⟩ = some (.int .i64 l.u) := by simp
      have hVW := hV1.of_block (hbW.block _ hV1.lt)
      generalize (w1.alloc (Obj.cells #[.int .i64 l.u, .int .i64 l.w, .int .i64 l.g] 61)).drewN n1 = W at *
      go_wp2_with fail
      go_quiet ((go_at_call 43; exact Calls.quiet_of_same (share_any (drewN_SH sW _) ok1 l.u)))
      have hshare : ({ s with L := s.L + 1 } : St).share l.u = s.share l.u := rfl
      rw [hshare]
      clear hshare
      have hVq : MapV (W.drewN nq) bR (Value.int .i64) (fun k => if left k then none else (s.by_ k).map s.croom) m := hVW
      have hN : (if (if left k.data.toList = true then none else Option.map s.croom (s.by_ k.data.toList)).isSome = true then m else m + 1) = m + 1 := by simp [Hlk.out]
      have hmx : m < maxLen := by unfold maxLen; omega
      go_wp2_with (first | (at_mapUpdate; refine wpList_storeV _ rfl _ _ _ 39 3 rfl Trym.underlying39 rfl hVq hmx k rfl hk _ rfl ?_; intro w3 hV3 hturn; go_frame))
      rw [hN] at hV3
      have hvv : max 0 (min (s.roomW l.u l.w) (wrap64 (s.share l.u - l.u))) = s.croom l := by
        rw [IntWalk.wrap64_in _ ⟨by omega, by omega⟩]
        exact (HCR.out _ _ rfl rfl).symm
      obtain ⟨R1, R2⟩ := claim_round hrg hsub hV hm hS hC Hlk.out Hx.out hrg1 hlt' hg1 (below_drewN hbW nq) hvv hV3 hturn (by omega) hR hnm hnr hno
      go_roundw
      case rel => exact R1
      case measure => rw [R2, hrg.left_eq]; exact hlt'

set_option maxRecDepth 100000 in
set_option maxHeartbeats 1000000 in
theorem claim_plain {w : World} {sb bm br bo : Nat} {s : St} (h : SH w sb bm br bo s) (ok : s.Ok) (hL : s.L < 1000000) (hcr : 1 < s.first) :
    Calls Trym.prog 38 #[.pointer (some ⟨sb, 0, none⟩)] w fun e w' => ∃ bR, e = .returned (.tuple #[.map (some bR), .int .i64 s.first, .int .i64 s.first]) ∧ ClaimPost w w' sb bm br bo bR s := by
  have c4 := h.blk.c4
  have f4 := h.blk.fr 4
  have hL0 := ok.L0
  have hbn := ok.bn
  have ok1 := ok.looked (s.L + 1) (by omega) (by omega)
  have hmm := run_makeMap_hint39
  go_enter Trym.func38, Trym.ntmps38
  go_wp2_with fail
  have ha := h.setL (s.L + 1)
  have hca := Ch.setCell w ⟨sb, 4, none⟩ (.int .i64 (s.L + 1))
  generalize w.setCell ⟨sb, 4, none⟩ (.int .i64 (s.L + 1)) = wa at *
  refine (roomWith_any ha ok1 0 0 (by omega) (by omega) (by omega) (by omega)).mono ?_
  rintro e w' ⟨rfl, k1, rfl⟩
  have hfirst : ({ s with L := s.L + 1 } : St).roomW 0 0 = s.first := rfl
  rw [hfirst]
  clear hfirst
  have d3 := ha.blk.c3
  have hlen : ∀ n ty, (Builtin.len_ #[49] ty #[.map (some bm)]).run Trym.prog (wa.drewN n) = .ok (.int .i64 s.bn) (wa.drewN n) := fun n ty => (drewN_SH ha n).m.len Trym.underlying49 ty
  have hb := ha.blk.lt
  go_wp2_with (first | (at_range; refine wpList_rangeV _ rfl _ 49 61 rfl Trym.underlying49 rfl (ha.m.of_block (Ch.block (((Ch.drewN wa k1 []).trans (Ch.alloc _ (.map #[] 0) []))) bm ha.m.lt (by simp))) ?_; intro w0 hrg0 hg0 hs0))
  have e1 : ((wa.drewN k1).alloc (Obj.map #[] 0)).heap.size = wa.heap.size + 1 := by simp
  rw [e1] at hrg0 hs0
  have hc0 : Ch [sb] wa w0 := ((Ch.drewN wa k1 _).trans (Ch.alloc _ (.map #[] 0) _)).trans (Ch.of_grown_none hg0 _)
  have hc0' : Ch [] wa w0 := ((Ch.drewN wa k1 _).trans (Ch.alloc _ (.map #[] 0) _)).trans (Ch.of_grown_none hg0 _)
  have hmade : MapV w0 wa.heap.size (Value.int .i64) (fun _ => none) 0 := (mapV_made (wa.drewN k1) (Value.int .i64)).of_block (hg0.block _ (by simp) (by simp))
  have hstart : ClaimRel w sb bm br bo wa.heap.size (wa.heap.size + 1) s w0 :=
    ⟨_, _, 0, hrg0, fun k hk => hk, hmade.congr (fun k => by cases s.by_ k <;> simp), by omega, ha.kept hc0' (by simp) (by simp) (by simp) (by simp), hca.trans hc0⟩
  have hR : w.heap.size ≤ wa.heap.size := hca.size
  have hnm : wa.heap.size ≠ bm := fun e => by have := ha.m.lt; omega
  have hnr : wa.heap.size ≠ br := fun e => by have := ha.r.lt; omega
  have hno : wa.heap.size ≠ bo := fun e => by have := ha.o.lt; omega
  clear hmade hc0 hc0' hg0 hrg0 hs0 e1 hlen d3 hmm c4 f4 ha hca h hb
  generalize wa.heap.size = bR at *
  clear wa
  go_loopw [6] (fun _ wr => ClaimRel w sb bm br bo bR (bR + 1) s wr) (fun _ wr => wr.rangeLeft bm (bR + 1))
  case atStart => exact hstart
  case round =>
    obtain ⟨left, cnt, m, hrg, hsub, hV, hm, hS, hC⟩ := hrel
    go_wp2_with (first | (at_next; refine wpList_nextLd _ rfl _ rfl rfl hrg ?_ ?_))
    · intro hc0 hl0
      go_wp2
      go_ret3
      refine ⟨bR, rfl, hS, ?_, hC, hR⟩
      have hV' : MapV wr bR (Value.int .i64) (fun k => (s.by_ k).map s.croom) m := hV.congr (fun k => by simp [hl0])
      have := hV'.size_eq hS.m (fun k => by simp)
      rw [this] at hV'
      exact hV'
    · intro k l w1 cnt1 hk hlk hx hrg1 hlt hg1 hs1 hen
      have hc1 := Ch.of_grown hg1
      have s1 : SH w1 sb bm br bo { s with L := s.L + 1 } := hS.kept hc1 (by simpa using hrg.not_cells hS.blk) (by simpa using hrg.not_map hS.m) (by simpa using hrg.not_map hS.r) (by simpa using hrg.not_map hS.o)
      have hlo := ok.by_ _ _ hx
      obtain ⟨ub, uc, vb, vc, gb, gc⟩ := hlo
      have hlt' := hlt
      have hsub' := hsub
      have Hx : Hid (s.by_ k.data.toList = some l) := hx
      have Hlk : Hid (left k.data.toList = true) := hlk
      clear hs1 hlt hx hlk
      have hRr := hrg.not_map hV
      have hV1 := hV.of_block (hc1.block _ hV.lt (by simp))
      go_wp2_with fail
      have hbx : ∀ o n, Below w1.heap.size w1 ((w1.alloc o).drewN n) := fun o n => below_drewN ((Below.refl _ _).alloc (Nat.le_refl _) o) n
      refine (roomWith_any (s1.later ((Below.refl _ _).alloc (Nat.le_refl _) _)) ok1 l.u l.w ub uc vb vc).mono ?_
      rintro e w' ⟨rfl, n1, rfl⟩
      have hroom : ({ s with L := s.L + 1 } : St).roomW l.u l.w = s.croom l := by
        unfold St.croom
        rw [if_neg (by omega)]
        rfl
      rw [hroom]
      clear hroom
      have hbW := hbx (Obj.cells #[.int .i64 l.u, .int .i64 l.w, .int .i64 l.g] 61) n1
      have hVW := hV1.of_block (hbW.block _ hV1.lt)
      generalize (w1.alloc (Obj.cells #[.int .i64 l.u, .int .i64 l.w, .int .i64 l.g] 61)).drewN n1 = W at *
      have hN : (if (if left k.data.toList = true then none else Option.map s.croom (s.by_ k.data.toList)).isSome = true then m else m + 1) = m + 1 := by simp [Hlk.out]
      have hmx : m < maxLen := by unfold maxLen; omega
      go_wp2_with (first | (at_mapUpdate; refine wpList_storeV _ rfl _ _ _ 39 3 rfl Trym.underlying39 rfl hVW hmx k rfl hk _ rfl ?_; intro w3 hV3 hturn; go_frame))
      rw [hN] at hV3
      obtain ⟨R1, R2⟩ := claim_round hrg hsub hV hm hS hC Hlk.out Hx.out hrg1 hlt' hg1 hbW rfl hV3 hturn (by omega) hR hnm hnr hno
      go_roundw
      case rel => exact R1
      case measure => rw [R2, hrg.left_eq]; exact hlt'

theorem claim_any {w : World} {sb bm br bo : Nat} {s : St} (h : SH w sb bm br bo s) (ok : s.Ok) (hL : s.L < 1000000) :
    Calls Trym.prog 38 #[.pointer (some ⟨sb, 0, none⟩)] w fun e w' => ∃ bR, e = .returned (.tuple #[.map (some bR), .int .i64 s.first, .int .i64 s.limit]) ∧ ClaimPost w w' sb bm br bo bR s := by
  unfold St.limit
  by_cases hc : s.first ≤ 1
  · rw [if_pos hc]; exact claim_crowded h ok hL hc
  · rw [if_neg hc]; exact claim_plain h ok hL (by omega)

end Go.Proofs.Qxb6001173aMods
