/- Walks: turns, at one item of a key that no script touches. -/
import Derived.Test.Qxb6001173aModsW8
import Derived.Deep.LoopGhost
namespace Go.Proofs.Qxb6001173aMods
open Go.RowKit Go.Maps
set_option linter.unusedVariables false
attribute [local go_sem] cell_alloc_map frozen_alloc_map

/-- The first loop of turns: the keys under way are laid into the copy's own map. -/
def CopyRel (w : World) (sb bm br bo ba bN r : Nat) (s : St) (wr : World) : Prop :=
  ∃ left cnt m, RangeV wr bm r Ld.val s.by_ s.bn left cnt ∧ MapV wr bN Ld.val (fun k => if left k then none else s.by_ k) m ∧ m + cnt ≤ s.bn ∧
    SH wr sb bm br bo s ∧ SBlk wr ba s.T s.E s.N s.L bN br bo ∧ Ch [sb] w wr

theorem copy_round {w : World} {sb bm br bo ba bN r : Nat} {s : St} {wr w1 w2 w3 : World} {left : List UInt8 → Bool} {cnt cnt1 m : Nat} {k : List UInt8} {l : Ld}
    (hrg : RangeV wr bm r Ld.val s.by_ s.bn left cnt) (hV : MapV wr bN Ld.val (fun k => if left k then none else s.by_ k) m) (hm : m + cnt ≤ s.bn) (hS : SH wr sb bm br bo s) (hA : SBlk wr ba s.T s.E s.N s.L bN br bo) (hC : Ch [sb] w wr)
    (hlk : left k = true) (hx : s.by_ k = some l) (hrg1 : RangeV w1 bm r Ld.val s.by_ s.bn (fun x => left x && !(x == k)) cnt1) (hlt : cnt1 < cnt) (hg1 : wr.grownBy w1 (some r)) (hb2 : Below w1.heap.size w1 w2)
    (hV3 : MapV w3 bN Ld.val (upd (fun k => if left k then none else s.by_ k) k (some l)) (m + 1)) (ht : w2.mapTurned w3 bN) (hr : w.heap.size ≤ r) (hR : w.heap.size ≤ bN) (hne : bN ≠ bm) (hn1 : bN ≠ br) (hn2 : bN ≠ bo) :
    CopyRel w sb bm br bo ba bN r s w3 ∧ w3.rangeLeft bm r = cnt1 := by
  have hct := Ch.of_turned ht
  have hc1 := Ch.of_grown hg1
  have hc2 := Ch.of_below hb2 []
  have hRr := hrg.not_map hV
  have hV1 := hV.of_block (hc1.block _ hV.lt (by simpa using hRr))
  have s1 : SH w1 sb bm br bo s := hS.kept hc1 (by simpa using hrg.not_cells hS.blk) (by simpa using hrg.not_map hS.m) (by simpa using hrg.not_map hS.r) (by simpa using hrg.not_map hS.o)
  have a1 : SBlk w1 ba s.T s.E s.N s.L bN br bo := hA.of_block (hc1.block _ hA.lt (by simpa using hrg.not_cells hA))
  have s2 := s1.later hb2
  have a2 := a1.of_block (hb2.block _ a1.lt)
  have s3 : SH w3 sb bm br bo s := s2.kept hct (by simpa using hV1.not_cells s1.blk) (by simpa using hne.symm) (by simpa using hn1.symm) (by simpa using hn2.symm)
  have a3 := a2.of_block (hct.block _ a2.lt (by simpa using hV1.not_cells a1))
  have r2 := hrg1.of_blocks (hc2.block _ hrg1.map.lt (by simp)) (hc2.block _ hrg1.lt (by simp))
  have r3 := r2.of_blocks (hct.block _ r2.map.lt (by simpa using hne.symm)) (hct.block _ r2.lt (by simpa using hRr.symm))
  refine ⟨⟨_, cnt1, m + 1, r3, hV3.congr ?_, by omega, s3, a3, ?_⟩, r3.left_eq⟩
  · intro x
    unfold upd
    by_cases e : x = k
    · subst e
      simp [hx]
    · simp [e]
  · refine ((hC.andThen hc1 (fun i hi => ?_)).andThen hc2 (by simp)).andThen hct (fun i hi => ?_)
    · simp at hi; subst hi; exact .inr hr
    · simp at hi; subst hi; exact .inr hR

/-- A row of the call's own, from block base on, whose first element is x. -/
def Row1 (w : World) (base g cap : Nat) (x : Value) : Prop := w.ownsRow base 9 1 (.slice (some ⟨g, 0, none⟩) 1 cap) 1 [x]

theorem Row1.parts {w : World} {base g cap : Nat} {x : Value} (h : Row1 w base g cap x) : ∃ cur, base ≤ g ∧ w.heap[g]? = some (.cells cur 9 (0, 0)) ∧ 1 ≤ cap ∧ cap ≤ maxLen ∧ cur.size = cap ∧ cur[0]? = some x := by
  obtain ⟨h1, h2⟩ := h
  rcases h2 with ⟨h3, _⟩ | ⟨g', cap', cur, hv, hb, hh, hn, hm, hs, ht⟩
  · cases h3
  · cases hv
    refine ⟨cur, hb, hh, hn, hm, by simpa using hs, ?_⟩
    have e0 : (cur.toList.take (1 * 1))[0]? = some x := by rw [ht]; rfl
    simpa using e0

theorem Row1.mk' {w : World} {base g cap : Nat} {x : Value} {cur : Array Value} (hb : base ≤ g) (hh : w.heap[g]? = some (.cells cur 9 (0, 0))) (h1 : 1 ≤ cap) (hm : cap ≤ maxLen) (hs : cur.size = cap) (h0 : cur[0]? = some x) : Row1 w base g cap x := by
  refine ⟨rfl, .inr ⟨g, cap, cur, rfl, hb, hh, h1, hm, by simpa using hs, ?_⟩⟩
  apply List.ext_getElem?
  intro i
  rcases i with _ | i
  · simpa using h0
  · simp; omega

theorem Row1.cell {w : World} {base g cap : Nat} {x : Value} (h : Row1 w base g cap x) : w.cell? ⟨g, 0, none⟩ = some x := by
  obtain ⟨cur, _, hh, _, _, _, h0⟩ := h.parts
  rw [cell_of_row hh, h0]

theorem Row1.zero {w : World} {base g cap : Nat} {x : Value} (h : Row1 w base g cap x) : w.ownsRow base 9 1 (.slice (some ⟨g, 0, none⟩) 0 cap) 0 [] := by
  obtain ⟨cur, hb, hh, h1, hm, hs, _⟩ := h.parts
  exact ⟨rfl, .inr ⟨g, cap, cur, rfl, hb, hh, by omega, hm, by simpa using hs, by simp⟩⟩

theorem Row1.of_block {w w' : World} {base g cap : Nat} {x : Value} (h : Row1 w base g cap x) (hb : w'.heap[g]? = w.heap[g]?) : Row1 w' base g cap x := by
  obtain ⟨cur, h0, hh, h1, hm, hs, hx⟩ := h.parts
  exact Row1.mk' h0 (hb.trans hh) h1 hm hs hx

theorem Row1.lt {w : World} {base g cap : Nat} {x : Value} (h : Row1 w base g cap x) : g < w.heap.size := by
  obtain ⟨cur, _, hh, _⟩ := h.parts
  exact (Array.getElem?_eq_some_iff.1 hh).1

theorem info9 : (Trym.prog.info? 9).map (fun i => (i.zero, i.size, i.bytes)) = some (some (.string ⟨#[]⟩), 1, 16) := by kernel_rfl

section
variable (w : World) {ops : Array Oper} {rest : List Oper} {o : Oper} {a : Act} {Q : Exit → Act → World → Prop}
/-- 'append([]string(nil), items...)', items one string. -/
theorem wpList_append_first (hg : o.guard = none) (m x : Operand) (hop : o.op = .call { callee := .builtin .append, args := #[m, x], argTypes := #[35, 35] }) (hm : a.eval m = .slice none 0 0) (bi ci : Nat) (hx : a.eval x = .slice (some ⟨bi, 0, none⟩) 1 ci) (y : ByteArray) (hc : w.cell? ⟨bi, 0, none⟩ = some (.string y))
    (hK : ∀ g cap w', Row1 w' w.heap.size g cap (.string y) → w.grownBy w' none → wpList Trym.prog ops Q rest (a.put o.dst (.slice (some ⟨g, 0, none⟩) 1 cap)) w') : wpList Trym.prog ops Q (o :: rest) a w := by
  obtain ⟨i0, hi, hz0, hz1, hz2⟩ := info_parts info9
  refine wpList_append_own w hg m x 35 hop w.heap.size 9 i0 (.string ⟨#[]⟩) 1 16 Trym.underlying35 hi hz0 hz1 hz2 rfl (by decide) _ 0 [] hm (World.ownsRow_nil _ _ _ _) ⟨bi, 0, none⟩ 1 ci [.string y] hx rfl ?_ ?_ (by unfold maxLen; omega) (by omega) (Nat.le_refl _) ?_
  · intro j u hj
    match j, hj with
    | 0, hj => simp at hj; subst hj; simpa [Addr.add] using hc
  · intro u hu; simp at hu; subst hu; rfl
  · intro v' w' hown hgrow _
    rcases hown.2 with ⟨_, h0⟩ | ⟨g, cap, cur, rfl, _⟩
    · omega
    · exact hK g cap w' hown hgrow

/-- 'append(next, item)', next the empty head of such a row. -/
theorem wpList_append_next (hg : o.guard = none) (m x : Operand) (hop : o.op = .call { callee := .builtin .append, args := #[m, x], argTypes := #[35, 35] }) (base g cap : Nat) (z : Value) (hm : a.eval m = .slice (some ⟨g, 0, none⟩) 0 cap) (hr : Row1 w base g cap z) (bi : Nat) (hx : a.eval x = .slice (some ⟨bi, 0, none⟩) 1 1) (y : ByteArray) (hc : w.cell? ⟨bi, 0, none⟩ = some (.string y))
    (hK : ∀ w', Row1 w' base g cap (.string y) → w.grownBy w' (some g) → wpList Trym.prog ops Q rest (a.put o.dst (.slice (some ⟨g, 0, none⟩) 1 cap)) w') : wpList Trym.prog ops Q (o :: rest) a w := by
  obtain ⟨i0, hi, hz0, hz1, hz2⟩ := info_parts info9
  obtain ⟨cur, _, _, h1, _⟩ := hr.parts
  refine wpList_append_fits w hg m x 35 hop base 9 i0 1 Trym.underlying35 hi hz1 g 0 cap [] hm hr.zero ⟨bi, 0, none⟩ 1 1 [.string y] hx rfl ?_ ?_ (by omega) ?_
  · intro j u hj
    match j, hj with
    | 0, hj => simp at hj; subst hj; simpa [Addr.add] using hc
  · intro u hu; simp at hu; subst hu; rfl
  · intro w' hown hgrow
    exact hK w' hown hgrow
end

def itemB : ByteArray := ⟨#[102, 114, 101, 115, 104, 45, 105, 116, 101, 109]⟩

def stF (t : Int) (k : List UInt8) : Option Int := if k = itemB.data.toList ∧ 0 < t then some t else none
def stN (t : Int) : Nat := if 0 < t then 1 else 0
def ksF (k : List UInt8) : Option ByteArray := if k = itemB.data.toList then some fresh else none

/-- The second loop of turns, at a round's head. -/
def TurnRel (w : World) (sb br bo ba bN bS bk nk base : Nat) (s : St) (gk : Nat) (v : Value) (wr : World) : Prop :=
  ∃ (n cap g : Nat) (s' : St) (t : Int) (c : Nat), v = .slice (some ⟨g, 0, none⟩) n cap ∧ n ≤ 1 ∧ Row1 wr base g cap (.string itemB) ∧ SH wr ba bN br bo s' ∧ Gd (fun _ => True) s' c ∧ (c : Int) + s'.free ≤ 400000 ∧
    MapV wr bS (Value.int .i64) (stF t) (stN t) ∧ MapV wr bk Value.string ksF nk ∧ 0 ≤ t ∧ t ≤ c ∧ n * (s'.free.toNat + 1) ≤ gk ∧ ((t = 0 ∧ n = 1 ∧ s' = s) ∨ (0 < t ∧ 0 < s.first) ∨ (t = 0 ∧ n = 0 ∧ s.first ≤ 0)) ∧ Ch [sb] w wr ∧
    (ba < base ∧ w.heap.size ≤ ba ∧ w.heap.size ≤ bN ∧ w.heap.size ≤ bS ∧ w.heap.size ≤ base ∧ bS ≠ bN ∧ bS ≠ br ∧ bS ≠ bo ∧ bS ≠ bk ∧ bN ≠ bk)

def TurnPost (w w' : World) (sb bS : Nat) (t : Int) (s : St) : Prop := MapV w' bS (Value.int .i64) (stF t) (stN t) ∧ (0 < t ↔ 0 < s.first) ∧ Ch [sb] w w'

def TurnEnd (e : Ending) (w w' : World) (sb : Nat) (s : St) : Prop := ∃ bS t, e = .returned (.map (some bS)) ∧ TurnPost w w' sb bS t s

theorem first_free {s : St} (ok : s.Ok) (h : 0 < s.first) : 0 < s.free := by
  have h1 := (roomP_pos h).2
  have h2 := share_bd ok 0
  omega

theorem room_fresh {s : St} (k : List UInt8) (h1 : s.by_ k = none) (h2 : s.re k = none) (h3 : s.ol k = none) : s.room k = s.first := by
  have hr : s.rest k = ⟨0, 0⟩ := by
    unfold St.rest
    rw [h2, h3]
    rfl
  have hl : s.load k = ⟨0, 0, 0⟩ := by
    simp [St.load, h1, hr]
  unfold St.room St.first
  rw [hl]

theorem free_nonneg (s : St) : 0 ≤ s.free := by unfold St.free; omega

theorem look_ks : ((ksF itemB.data.toList).map Value.string).getD (.string ⟨#[]⟩) = .string fresh := rfl
theorem look_st (t : Int) (h : 0 ≤ t) : ((stF t itemB.data.toList).map (Value.int .i64)).getD (.int .i64 0) = .int .i64 t := by
  unfold stF
  by_cases ht : 0 < t
  · simp [ht]
  · have : t = 0 := by omega
    subst this
    simp
theorem st_put (t : Int) (h : 0 ≤ t) : (∀ k, stF (t + 1) k = upd (stF t) itemB.data.toList (some (t + 1)) k) ∧ stN (t + 1) = (if (stF t itemB.data.toList).isSome then stN t else stN t + 1) := by
  constructor
  · intro k
    unfold stF upd
    by_cases e : k = itemB.data.toList
    · simp [e]; omega
    · simp [e]
  · unfold stF stN
    by_cases ht : 0 < t
    · simp [ht]; omega
    · simp [ht]; omega
theorem item_size : itemB.size ≤ maxLen := by
  have : itemB.size = 10 := rfl
  rw [this]; unfold maxLen; omega
theorem fresh_size : fresh.size ≤ maxLen := by
  have : fresh.size = 5 := rfl
  rw [this]; unfold maxLen; omega

theorem take_free {s : St} (k : List UInt8) (h : 0 < s.free) : (s.take k).free = s.free - 1 := by
  unfold St.free St.take at *
  simp only []
  omega

set_option maxRecDepth 100000 in
set_option maxHeartbeats 1000000 in
theorem turns_any {w : World} {sb bm br bo : Nat} {s : St} (h : SH w sb bm br bo s) (ok : s.Ok) (hL : s.L < 1000000) (bi bk ci : Nat) (hi : w.cell? ⟨bi, 0, none⟩ = some (.string itemB)) (nk : Nat) (hk : MapV w bk Value.string ksF nk) (c : Nat) (hG : Good s c) (hcc : c ≤ 100000) (p1 : s.by_ fresh.data.toList = none) (p2 : s.re fresh.data.toList = none) (p3 : s.ol fresh.data.toList = none) :
    Calls Trym.prog 37 #[.pointer (some ⟨sb, 0, none⟩), .slice (some ⟨bi, 0, none⟩) 1 ci, .map (some bk)] w fun e w' => TurnEnd e w w' sb s := by
  have c4 := h.blk.c4
  have f4 := h.blk.fr 4
  have hL0 := ok.L0
  have hbn := ok.bn
  have ok1 := ok.looked (s.L + 1) (by omega) (by omega)
  have hmm := run_makeMap_hint49
  go_enter Trym.func37, Trym.ntmps37
  go_upto_region 2 with fail
  have ha := h.setL (s.L + 1)
  have hca := Ch.setCell w ⟨sb, 4, none⟩ (.int .i64 (s.L + 1))
  generalize w.setCell ⟨sb, 4, none⟩ (.int .i64 (s.L + 1)) = wa at *
  have hbi : bi ≠ sb := fun e => by
    subst e
    rw [h.blk.c0] at hi
    cases hi
  have hia : wa.cell? ⟨bi, 0, none⟩ = some (.string itemB) := hca.cell hi (by simpa using hbi)
  have hka : MapV wa bk Value.string ksF nk := hk.of_block (hca.block _ hk.lt (by simpa using (hk.not_cells h.blk).symm))
  have hwz := hca.size
  have d0 := ha.blk.c0
  have d1 := ha.blk.c1
  have d2 := ha.blk.c2
  have d3 := ha.blk.c3
  have d4 := ha.blk.c4
  have d5 := ha.blk.c5
  have d6 := ha.blk.c6
  have hlt := ha.blk.lt
  have hlen : ∀ o ty, (Builtin.len_ #[49] ty #[.map (some bm)]).run Trym.prog (wa.alloc o) = .ok (.int .i64 s.bn) (wa.alloc o) := fun o ty => (ha.kept (Ch.alloc wa o []) (by simp) (by simp) (by simp) (by simp)).m.len Trym.underlying49 ty
  clear c4 f4 hi hk h
  go_upto_region 4 with fail
  have hcA : Ch [] wa ((wa.alloc (Obj.cells #[.int .i64 s.T, .int .i64 s.E, .int .i64 s.N, .map (some (wa.heap.size + 1)), .int .i64 (s.L + 1), .map (some br), .map (some bo)] 52)).alloc (Obj.map #[] 0)) := (Ch.alloc _ _ _).trans (Ch.alloc _ _ _)
  have hA : SBlk ((wa.alloc (Obj.cells #[.int .i64 s.T, .int .i64 s.E, .int .i64 s.N, .map (some (wa.heap.size + 1)), .int .i64 (s.L + 1), .map (some br), .map (some bo)] 52)).alloc (Obj.map #[] 0)) wa.heap.size s.T s.E s.N (s.L + 1) (wa.heap.size + 1) br bo := heap_alloc2_old wa _ _
  have hN : MapV ((wa.alloc (Obj.cells #[.int .i64 s.T, .int .i64 s.E, .int .i64 s.N, .map (some (wa.heap.size + 1)), .int .i64 (s.L + 1), .map (some br), .map (some bo)] 52)).alloc (Obj.map #[] 0)) (wa.heap.size + 1) Ld.val (fun _ => none) 0 := by
    have := mapV_made (wa.alloc (Obj.cells #[.int .i64 s.T, .int .i64 s.E, .int .i64 s.N, .map (some (wa.heap.size + 1)), .int .i64 (s.L + 1), .map (some br), .map (some bo)] 52)) Ld.val
    have e1 : (wa.alloc (Obj.cells #[.int .i64 s.T, .int .i64 s.E, .int .i64 s.N, .map (some (wa.heap.size + 1)), .int .i64 (s.L + 1), .map (some br), .map (some bo)] 52)).heap.size = wa.heap.size + 1 := by simp
    rw [e1] at this
    exact this
  have hz1 : ((wa.alloc (Obj.cells #[.int .i64 s.T, .int .i64 s.E, .int .i64 s.N, .map (some (wa.heap.size + 1)), .int .i64 (s.L + 1), .map (some br), .map (some bo)] 52)).alloc (Obj.map #[] 0)).heap.size = wa.heap.size + 1 + 1 := by simp
  generalize (wa.alloc (Obj.cells #[.int .i64 s.T, .int .i64 s.E, .int .i64 s.N, .map (some (wa.heap.size + 1)), .int .i64 (s.L + 1), .map (some br), .map (some bo)] 52)).alloc (Obj.map #[] 0) = W1 at *
  have hS1 := ha.kept hcA (by simp) (by simp) (by simp) (by simp)
  have e3 := hS1.blk.c3
  clear hlen d0 d1 d2 d3 d4 d5 d6 hmm
  go_wp2_with (first | (at_range; refine wpList_rangeV _ rfl _ 49 61 rfl Trym.underlying49 rfl hS1.m ?_; intro w0 hrg0 hg0 hs0; go_frame))
  rw [hz1] at hrg0
  have hc0 := Ch.of_grown_none hg0 []
  have hc0' := hc0
  have hS0 := hS1.kept hc0 (by simp) (by simp) (by simp) (by simp)
  have hA0 := hA.of_block (hc0.block _ hA.lt (by simp))
  have hN0 := hN.of_block (hc0.block _ hN.lt (by simp))
  have hb1 := ha.m.lt
  have hb2 := ha.r.lt
  have hb3 := ha.o.lt
  have hstart : CopyRel w sb bm br bo wa.heap.size (wa.heap.size + 1) (wa.heap.size + 1 + 1) { s with L := s.L + 1 } w0 :=
    ⟨_, _, 0, hrg0, hN0.congr (fun k => by simp only []; cases s.by_ k <;> simp), by simp, hS0, hA0, hca.andThen (hcA.trans hc0) (by simp)⟩
  go_loopw [8] (fun _ wr => CopyRel w sb bm br bo wa.heap.size (wa.heap.size + 1) (wa.heap.size + 1 + 1) { s with L := s.L + 1 } wr ∧ Ch [wa.heap.size + 1, wa.heap.size + 1 + 1] w0 wr) (fun _ wr => wr.rangeLeft bm (wa.heap.size + 1 + 1))
  case atStart => exact ⟨hstart, Ch.refl _ _⟩
  case round =>
    obtain ⟨⟨left, cnt, m, hrg, hV, hm, hS, hA, hC⟩, hCh⟩ := hrel
    simp only [] at hm
    go_wp2_with (first | (at_next; refine wpList_nextLd _ rfl _ rfl rfl hrg ?_ ?_))
    · intro hc0 hl0
      have hV' : MapV wr (wa.heap.size + 1) Ld.val s.by_ m := hV.congr (fun k => by simp [hl0])
      have hmz := hV'.size_eq hS.m (fun k => rfl)
      rw [hmz] at hV'
      have hSA : SH wr wa.heap.size (wa.heap.size + 1) br bo { s with L := s.L + 1 } := ⟨hA, hV', hS.r, hS.o, fun e => by omega, fun e => by omega, hS.ro⟩
      have hir : wr.cell? ⟨bi, 0, none⟩ = some (.string itemB) := by
        have hlt1 : bi < wa.heap.size := World.block_lt_of_cell? wa ⟨bi, 0, none⟩ hia
        refine hCh.cell (hc0'.cell (hcA.cell hia (by simp)) (by simp)) ?_
        simp; omega
      have hlt2 := hka.lt
      have hkr : MapV wr bk Value.string ksF nk := by
        have h1 := hka.of_block (hcA.block _ hka.lt (by simp))
        have h2 := h1.of_block (hc0'.block _ h1.lt (by simp))
        exact h2.of_block (hCh.block _ h2.lt (by simp; omega))
      have hG1 : Gd (fun _ => True) { s with L := s.L + 1 } (c + 1) := (good_claim hG).weaken (fun _ _ => trivial)
      have hbz : wa.heap.size + 1 + 1 < wr.heap.size := hrg.lt
      clear hstart hrg0 hg0 hs0 hS0 hA0 hN0 hcA hA hN hS1 e3 hz1 hca hV hm hS ha hka hia hV' hmz hCh hc0'
      have hmm := @run_makeMap Trym.prog
      go_wp2_with (first | (at_builtin; refine wpList_append_first _ rfl _ _ rfl rfl bi ci rfl itemB (by rw [cell_alloc_map]; exact hir) ?_; intro g cap w4 hrow4 hg4; go_frame))
      have hc4 : Ch [] wr w4 := (Ch.alloc wr (.map #[] 0) []).trans (Ch.of_grown_none hg4 [])
      have eb : (wr.alloc (Obj.map #[] 0)).heap.size = wr.heap.size + 1 := by simp
      rw [eb] at hrow4
      have hSA4 := hSA.kept hc4 (by simp) (by simp) (by simp) (by simp)
      have hk4 := hkr.of_block (hc4.block _ hkr.lt (by simp))
      have hS4 : MapV w4 wr.heap.size (Value.int .i64) (stF 0) (stN 0) := ((mapV_made wr (Value.int .i64)).of_block (hg4.block _ (by simp) (by simp))).congr (fun k => by simp [stF])
      have hfb := free_bd ok1
      have hstart : TurnRel w sb br bo wa.heap.size (wa.heap.size + 1) wr.heap.size bk nk (wr.heap.size + 1) { s with L := s.L + 1 } (({ s with L := s.L + 1 } : St).free.toNat + 1) (.slice (some ⟨g, 0, none⟩) 1 cap) w4 := by
        have hfb2 : ({ s with L := s.L + 1 } : St).free ≤ 200000 := by
          have h1 := hG.T1
          have h2 := hG.N0
          unfold St.free
          simp only []
          omega
        exact ⟨1, cap, g, _, 0, c + 1, rfl, Nat.le_refl _, hrow4, hSA4, hG1, by omega, hS4, hk4, Int.le_refl _, by omega, by omega, .inl ⟨rfl, rfl, rfl⟩, hC.andThen hc4 (by simp), by omega⟩
      have hmain : ∀ g s', TurnRel w sb br bo wa.heap.size (wa.heap.size + 1) wr.heap.size bk nk (wr.heap.size + 1) { s with L := s.L + 1 } g s' w4 → True := fun _ _ _ => trivial
      clear hmain hc4 hSA hSA4 hk4 hS4 hfb hrow4 hg4 hC hkr hir hrg hbz eb
      generalize wr.heap.size = bS at *
      generalize wa.heap.size = ba at *
      go_loopg [11] (({ s with L := s.L + 1 } : St).free.toNat + 1) (fun gk v wx => TurnRel w sb br bo ba (ba + 1) bS bk nk (bS + 1) { s with L := s.L + 1 } gk v wx)
      case atStart => exact hstart
      case round =>
        obtain ⟨n, cap, g, s', t, c', rfl, hn1, hrow, hSx, hGx, hfx, hVx, hkx, ht0, htc, hgk, hph, hCx, hnum⟩ := hrel
        obtain ⟨q1, q2, q3, q4, q5, q6, q7, q8, q9, q10⟩ := hnum
        have hfn := free_nonneg s'
        have okx := hGx.ok (by omega)
        by_cases hn : n = 0
        · subst hn
          have hphx : 0 < t ↔ 0 < s.first := by
            have e : ({ s with L := s.L + 1 } : St).first = s.first := rfl
            rw [e] at hph
            omega
          go_wp2
          go_ret
          exact ⟨bS, t, rfl, hVx, hphx, hCx⟩
        · have hn' : n = 1 := by omega
          subst hn'
          have hc0 := hrow.cell
          go_wp2_with fail
          refine wp_loop_rounds 2 ?_
          rw [rounds_succ]
          go_wp2_with fail
          refine (free_any hSx okx).mono ?_
          rintro e w5 ⟨rfl, k5, rfl⟩
          by_cases hf0 : (s'.free == 0) = true
          · have hphx : 0 < t ↔ 0 < s.first := by
              have e : ({ s with L := s.L + 1 } : St).first = s.first := rfl
              have hf1 : s'.free = 0 := by simpa using hf0
              rcases hph with ⟨h1, _, h3⟩ | h1 | ⟨_, h2, _⟩
              · subst h1
                subst h3
                rw [← e]
                constructor
                · intro h; omega
                · intro h; have := first_free okx h; omega
              · rw [e] at h1; omega
              · omega
            clear hrow hgk hph
            go_wp2
            go_ret
            exact ⟨bS, t, rfl, hVx, hphx, hCx.trans (Ch.drewN _ _ _)⟩
          · have hf0' : (s'.free == 0) = false := by simpa using hf0
            have hfp : 0 < s'.free := by have : ¬ s'.free = 0 := by simpa using hf0
                                         omega
            clear hf0
            have hkx5 : MapV (wr.drewN k5) bk Value.string ksF nk := hkx
            have hks := look_ks
            go_wp2_with (first | (at_lookup; refine wpList_lookV _ rfl _ _ 38 9 rfl Trym.underlying38 (zero9 _) rfl hkx5 itemB rfl item_size _ hks ?_))
            refine (room_any (drewN_SH hSx k5) okx fresh fresh_size).mono ?_
            rintro e w6 ⟨rfl, hb6⟩
            have hSx6 := (drewN_SH hSx k5).later hb6
            have hc6 : Ch [] wr w6 := (Ch.drewN wr k5 []).trans (Ch.of_below hb6 [])
            have hrow6 := hrow.of_block (hc6.block _ hrow.lt (by simp))
            have hVx6 := hVx.of_block (hc6.block _ hVx.lt (by simp))
            have hkx6 := hkx.of_block (hc6.block _ hkx.lt (by simp))
            have hC6 := hCx.andThen hc6 (by simp)
            have Hph : Hid (0 < s'.room fresh.data.toList → 0 < s.first) := by
              intro hr
              rcases hph with ⟨h1, _, h3⟩ | h1 | ⟨_, h2, _⟩
              · subst h3
                rw [room_fresh _ (by exact p1) (by exact p2) (by exact p3)] at hr
                exact hr
              · exact h1.2
              · omega
            have Hph2 : Hid (¬ 0 < s'.room fresh.data.toList → (0 < t ∧ 0 < s.first) ∨ (t = 0 ∧ s.first ≤ 0)) := by
              intro hr
              rcases hph with ⟨h1, _, h3⟩ | h1 | ⟨_, h2, _⟩
              · subst h3
                rw [room_fresh _ (by exact p1) (by exact p2) (by exact p3)] at hr
                right
                refine ⟨h1, ?_⟩
                have e : ({ s with L := s.L + 1 } : St).first = s.first := rfl
                rw [e] at hr
                omega
              · left; exact h1
              · omega
            clear hph hkx5 hks hkx hVx hSx hrow
            have hgk' : s'.free.toNat + 1 ≤ gk := by simpa using hgk
            clear hgk
            by_cases hr : 0 < s'.room fresh.data.toList
            · go_wp2_with fail
              refine (take_any hSx6 okx fresh fresh_size).mono ?_
              rintro e w7 ⟨rfl, hSx7, hc7⟩
              have hna : ba ≠ bS := hVx6.not_cells hSx6.blk
              have hgb : bS + 1 ≤ g := by obtain ⟨_, h1, _⟩ := hrow6.parts; exact h1
              have hgN : g ≠ ba + 1 := by
                obtain ⟨cur, _, h1, _⟩ := hrow6.parts
                exact hSx6.m.not_cells h1
              have hVx7 := hVx6.of_block (hc7.block _ hVx6.lt (by simp; omega))
              have hkba : ba ≠ bk := hkx6.not_cells hSx6.blk
              have hkx7 := hkx6.of_block (hc7.block _ hkx6.lt (by simp; omega))
              have hrow7 := hrow6.of_block (hc7.block _ hrow6.lt (by simp; omega))
              have hC7 := hC6.andThen hc7 (fun i hi => by simp at hi; rcases hi with rfl | rfl <;> exact .inr (by omega))
              have hst := look_st t ht0
              have htb : t ≤ 400000 := by omega
              obtain ⟨Hst1, Hst2⟩ := st_put t ht0
              have HST : Hid ((∀ k, stF (t + 1) k = upd (stF t) itemB.data.toList (some (t + 1)) k) ∧ stN (t + 1) = (if (stF t itemB.data.toList).isSome then stN t else stN t + 1)) := ⟨Hst1, Hst2⟩
              clear Hst1 Hst2
              have hsn : stN t < maxLen := by unfold stN maxLen; split <;> omega
              go_upto_region 21 with (first | (at_lookup; refine wpList_lookV _ rfl _ _ 39 3 rfl Trym.underlying39 (zero3 _) rfl hVx7 itemB rfl item_size _ hst ?_; clear hst) | (at_mapUpdate; refine wpList_storeV _ rfl _ _ _ 39 3 rfl Trym.underlying39 rfl hVx7 hsn itemB rfl item_size (t + 1) rfl ?_; intro w8 hV8 hturn8; go_frame))
              have hc8 := Ch.of_turned hturn8
              rw [← HST.out.2] at hV8
              have hV8' := hV8.congr HST.out.1
              have hSx8 := hSx7.kept hc8 (by simpa using hna) (by simpa using q6.symm) (by simpa using q7.symm) (by simpa using q8.symm)
              have hkx8 := hkx7.of_block (hc8.block _ hkx7.lt (by simpa using q9.symm))
              have hrow8 := hrow7.of_block (hc8.block _ hrow7.lt (by simp; omega))
              have hC8 := hC7.andThen hc8 (fun i hi => by simp at hi; subst hi; exact .inr (by omega))
              have hal : Ch [] w8 (w8.alloc (Obj.cells #[.string itemB] 9)) := Ch.alloc _ _ _
              have hrow8' := hrow8.of_block (hal.block _ hrow8.lt (by simp))
              clear hV8 hVx7 hVx6 hkx6 hkx7 hrow6 hrow7 hturn8 hSx7
              go_wp2_with (first | (at_builtin; refine wpList_append_next _ rfl _ _ rfl (bS + 1) g cap _ rfl hrow8' w8.heap.size rfl itemB (by simp) ?_; intro w9 hrow9 hg9; go_frame))
              rw [rounds_succ]
              have hc9 : Ch [g] w8 w9 := (hal.mono (by simp)).trans (Ch.of_grown hg9)
              have hngm : bS ≠ g := by omega
              have hV9 := hV8'.of_block (hc9.block _ hV8'.lt (by simpa using hngm))
              have hgk8 : g ≠ bk := by
                obtain ⟨cur, _, h1, _⟩ := hrow8.parts
                exact hkx8.not_cells h1
              have hkx9 := hkx8.of_block (hc9.block _ hkx8.lt (by simpa using hgk8.symm))
              have hgr : g ≠ br := by
                obtain ⟨cur, _, h1, _⟩ := hrow8.parts
                exact hSx8.r.not_cells h1
              have hgo : g ≠ bo := by
                obtain ⟨cur, _, h1, _⟩ := hrow8.parts
                exact hSx8.o.not_cells h1
              have hSx9 := hSx8.kept hc9 (by simp; omega) (by simpa using hgN.symm) (by simpa using hgr.symm) (by simpa using hgo.symm)
              have hC9 := hC8.andThen hc9 (fun i hi => by simp at hi; subst hi; exact .inr (by omega))
              have hGt := good_take hGx fresh.data.toList trivial hr
              have hft := take_free fresh.data.toList hfp
              have hR : TurnRel w sb br bo ba (ba + 1) bS bk nk (bS + 1) { s with L := s.L + 1 } (gk - 1) (.slice (some ⟨g, 0, none⟩) 1 cap) w9 :=
                ⟨1, cap, g, s'.take fresh.data.toList, t + 1, c' + 1, rfl, Nat.le_refl _, hrow9, hSx9, hGt, by rw [hft]; omega, hV9, hkx9, by omega, by omega, by rw [hft]; omega, .inr (.inl ⟨by omega, Hph.out hr⟩), hC9, by omega⟩
              clear hV9 hV8' hSx8 hSx9 hkx8 hkx9 hrow8 hrow8' hrow9 hC6 hC7 hC8 hC9 hGt hft hc9 hg9 hal hc8 hc7 hstart
              go_wp2
              go_roundg (gk - 1)
              case measure => omega
              case rel => exact hR
            · have Hp2 := Hph2.out hr
              have hR : TurnRel w sb br bo ba (ba + 1) bS bk nk (bS + 1) { s with L := s.L + 1 } 0 (.slice (some ⟨g, 0, none⟩) 0 cap) w6 :=
                ⟨0, cap, g, s', t, c', rfl, Nat.zero_le _, hrow6, hSx6, hGx, hfx, hVx6, hkx6, ht0, htc, by omega, by
                  rcases Hp2 with h1 | h1
                  · exact .inr (.inl h1)
                  · exact .inr (.inr ⟨h1.1, rfl, h1.2⟩), hC6, by omega⟩
              clear hrow6 hSx6 hVx6 hkx6 hC6 Hp2 hstart
              go_wp2_with fail
              rw [rounds_succ]
              go_wp2
              go_roundg 0
              case measure => omega
              case rel => exact hR
    · intro k l w1 cnt1 hkz hlk hx hrg1 hlt1 hg1 hs1 hen
      have Hx : Hid (s.by_ k.data.toList = some l) := hx
      have Hlk : Hid (left k.data.toList = true) := hlk
      clear hs1 hx hlk
      have hc1 := Ch.of_grown hg1
      have hRr := hrg.not_map hV
      have hV1 := hV.of_block (hc1.block _ hV.lt (by simp))
      have a1 := hA.of_block (hc1.block _ hA.lt (by simpa using hrg.not_cells hA))
      have a3 := a1.c3
      have alt := a1.lt
      have hbx : Below w1.heap.size w1 (w1.alloc (Obj.cells #[.int .i64 l.u, .int .i64 l.w, .int .i64 l.g] 61)) := (Below.refl _ _).alloc (Nat.le_refl _) _
      have hV2 := hV1.of_block (hbx.block _ hV1.lt)
      have hmx : m < maxLen := by unfold maxLen; omega
      have hNN : (if (if left k.data.toList = true then none else s.by_ k.data.toList).isSome = true then m else m + 1) = m + 1 := by simp [Hlk.out]
      go_wp2_with (first | (at_mapUpdate; refine wpList_storeV _ rfl _ _ _ 49 61 rfl Trym.underlying49 rfl hV2 hmx k rfl hkz l rfl ?_; intro w3 hV3 hturn; go_frame))
      simp only [hNN] at hV3
      obtain ⟨R1, R2⟩ := copy_round (s := { s with L := s.L + 1 }) hrg hV hm hS hA hC Hlk.out Hx.out hrg1 hlt1 hg1 hbx hV3 hturn (by omega) (by omega) (fun e => by omega) (fun e => by omega) (fun e => by omega)
      go_roundw
      case rel => exact ⟨R1, ((hCh.trans (hc1.mono (by simp))).trans (Ch.of_below hbx _)).trans ((Ch.of_turned hturn).mono (by simp))⟩
      case measure => rw [R2, hrg.left_eq]; exact hlt1
end Go.Proofs.Qxb6001173aMods
