/- Walks: claim. -/
import Derived.Test.Qxb6001173aModsW3
import Derived.Deep.RegionWith
namespace Go.Proofs.Qxb6001173aMods
open Go.RowKit Go.Maps Go.ChangeMaps Go.MapKept Go.WideShapes
open Go.WideElems (Fit rd rg pl rd_key rd_val rg_of)
set_option linter.unusedVariables false

/-- A map's entries, as a list of keys: no key twice; a key is on it just if the map has it. -/
theorem MapV.keys {β : Type} {w : World} {b : Nat} {mk : β → Value} {f : List UInt8 → Option β} {sz : Nat} (h : MapV w b mk f sz) : ∃ ks : List (List UInt8), ks.Nodup ∧ ks.length = sz ∧ ∀ k, k ∈ ks ↔ (f k).isSome = true := by
  obtain ⟨D, h1, h2, h3⟩ := h
  have hkeys : ∀ kl, Maps.has D kl = true → ∃ s, kl = .string s := by
    intro kl hkl
    obtain ⟨es, clock, _, F, _, rfl⟩ := h1
    obtain ⟨p, hp, hpk⟩ := List.any_eq_true.1 hkl
    obtain ⟨x, hx, rfl⟩ := List.mem_map.1 (mem_sorted.1 hp)
    obtain ⟨y, hy⟩ := F.reads x hx
    obtain ⟨s, _, e2, _⟩ := WideMaps.string_of_keyOf Trym.underlying9 (rd_key hy)
    have e3 := WideAt.sameKey_eq hpk
    rw [rg_of hy] at e3
    exact ⟨_, by rw [← e3, e2]⟩
  obtain ⟨es, rfl, hpw, hkl⟩ := h1.entries law9
  have hmem : ∀ p ∈ es, ∃ s, p.1 = .string s := fun p hp => hkeys p.1 (List.any_eq_true.2 ⟨p, hp, WideAt.sameKey_self (hkl p hp)⟩)
  refine ⟨es.map (fun p => match p.1 with | .string s => s | _ => []), ?_, by simpa [Maps.size] using h3, fun k => ?_⟩
  · rw [List.Nodup, List.pairwise_map]
    refine List.Pairwise.imp_of_mem ?_ hpw
    intro p q hp hq hne
    obtain ⟨s, hs⟩ := hmem p hp
    obtain ⟨t, ht⟩ := hmem q hq
    rw [hs, ht]
    rw [hs, ht] at hne
    exact fun e => hne (by simp at e; rw [e])
  · have hh : Maps.has (DataW.map es) (.string k) = (f k).isSome := by rw [has_look, h2]; simp
    rw [← hh, Maps.has_eq, List.any_eq_true, List.mem_map]
    constructor
    · rintro ⟨p, hp, rfl⟩
      obtain ⟨s, hs⟩ := hmem p hp
      refine ⟨p, hp, ?_⟩
      rw [hs]
      exact WideAt.sameKey_self (by trivial)
    · rintro ⟨p, hp, hpk⟩
      exact ⟨p, hp, by rw [WideAt.sameKey_eq hpk]⟩

theorem MapV.size_eq {β γ : Type} {w w' : World} {b b' : Nat} {mk : β → Value} {mk' : γ → Value} {f : List UInt8 → Option β} {f' : List UInt8 → Option γ} {sz sz' : Nat}
    (h : MapV w b mk f sz) (h' : MapV w' b' mk' f' sz') (he : ∀ k, (f k).isSome = (f' k).isSome) : sz = sz' := by
  obtain ⟨ks, n1, l1, m1⟩ := h.keys
  obtain ⟨ks', n2, l2, m2⟩ := h'.keys
  have hp : ks.Perm ks' := (List.perm_ext_iff_of_nodup n1 n2).2 (fun k => by rw [m1, m2, he])
  rw [← l1, ← l2, hp.length_eq]

theorem run_makeMap_hint39 (n : Int) (w : World) : (Instr.makeMap 39 (some (.int .i64 n))).run Trym.prog w = .ok (.map (some w.heap.size)) (w.alloc (.map #[] 0)) := by
  simp [Instr.makeMap, run_underlying Trym.underlying39, asInt, asIntOf, Result.andThen]
theorem run_makeMap_hint49 (n : Int) (w : World) : (Instr.makeMap 49 (some (.int .i64 n))).run Trym.prog w = .ok (.map (some w.heap.size)) (w.alloc (.map #[] 0)) := by
  simp [Instr.makeMap, run_underlying Trym.underlying49, asInt, asIntOf, Result.andThen]

theorem heap_alloc_map (w : World) (o : Obj) (b : Nat) : (w.alloc o).heap[b]? = if b = w.heap.size then some o else w.heap[b]? := by
  show (w.heap.push o)[b]? = _
  rw [Array.getElem?_push]
theorem cell_alloc_map (w : World) (es : Array MapEntry) (c : Nat) (a : Addr) : (w.alloc (.map es c)).cell? a = w.cell? a := by
  by_cases e : a.block = w.heap.size
  · have h1 : (w.alloc (.map es c)).heap[a.block]? = some (.map es c) := by rw [heap_alloc_map, if_pos e]
    have h2 : w.heap[a.block]? = none := by rw [e]; simp
    simp only [World.cell?, h1, h2]
  · exact World.cell?_of_block (by rw [heap_alloc_map, if_neg e])
theorem frozen_alloc_map (w : World) (es : Array MapEntry) (c : Nat) (a : Addr) : (w.alloc (.map es c)).frozen? a = w.frozen? a := by
  by_cases e : a.block = w.heap.size
  · have h1 : (w.alloc (.map es c)).heap[a.block]? = some (.map es c) := by rw [heap_alloc_map, if_pos e]
    have h2 : w.heap[a.block]? = none := by rw [e]; simp
    simp only [World.frozen?, h1, h2]
  · exact World.frozen?_of_block (by rw [heap_alloc_map, if_neg e])

section
variable {β : Type} {mk : β → Value} {f : List UInt8 → Option β} {sz b r cnt : Nat} {left : List UInt8 → Bool} (w : World) {ops : Array Oper} {rest : List Oper} {o : Oper} {a : Act} {Q : Exit → Act → World → Prop}

theorem wpList_rangeV (hg : o.guard = none) (m : Operand) (t e : TypeId) (hop : o.op = Op.range t m) (ht : Trym.prog.underlying t = some (.map 9 e)) (hm : a.eval m = .map (some b)) (hV : MapV w b mk f sz)
    (hK : ∀ w', RangeV w' b w.heap.size mk f sz (fun s => (f s).isSome) sz → w.grownBy w' none → w'.heap.size = w.heap.size + 1 → wpList Trym.prog ops Q rest (a.put o.dst (.pointer (some ⟨w.heap.size, 0, none⟩))) w') : wpList Trym.prog ops Q (o :: rest) a w := by
  refine wpList_plain hg fun K' hK' => ?_
  obtain ⟨w', hrun, r1, r2, r3⟩ := hV.range ht
  unfold Oper.wp
  simp [execOp, hop, hm, hrun, Result.andThen]
  exact hK' _ _ (hK w' r1 r2 r3)

theorem wpList_nextLd {f : List UInt8 → Option Ld} (hg : o.guard = none) (it : Operand) (hop : o.op = Op.next it false) (hit : a.eval it = .pointer (some ⟨r, 0, none⟩)) (h : RangeV w b r Ld.val f sz left cnt)
    (hDone : cnt = 0 → (∀ s, left s = false) → wpList Trym.prog ops Q rest (a.put o.dst (.tuple #[.bool false])) w)
    (hMore : ∀ (s : ByteArray) (x : Ld) (w' : World) (cnt' : Nat), s.size ≤ maxLen → left s.data.toList = true → f s.data.toList = some x → RangeV w' b r Ld.val f sz (fun k => left k && !(k == s.data.toList)) cnt' → cnt' < cnt → w.grownBy w' (some r) → w'.heap.size = w.heap.size →
      (Instr.entry (.pointer (some ⟨r, 0, none⟩))).run Trym.prog w' = .ok (.tuple #[.string s, .agg #[.int .i64 x.u, .int .i64 x.w, .int .i64 x.g]]) w' → wpList Trym.prog ops Q rest (a.put o.dst (.tuple #[.bool true, .string s, .agg #[.int .i64 x.u, .int .i64 x.w, .int .i64 x.g]])) w') :
    wpList Trym.prog ops Q (o :: rest) a w := by
  refine wpList_plain hg fun K' hK' => ?_
  unfold Oper.wp
  rcases h.next o.type with ⟨h0, hl, hrun⟩ | ⟨s, x, w', cnt', hs, hlk, hx, hrun, hrg, hlt, hgr, hsz, hen⟩
  · simp [execOp, hop, hit, hrun, Result.andThen]
    exact hK' _ _ (hDone h0 hl)
  · simp [execOp, hop, hit, hrun, Result.andThen]
    exact hK' _ _ (hMore s x w' cnt' hs hlk hx hrg hlt hgr hsz hen)

/-- 'm[k] = v' at the operation. -/
theorem wpList_storeV (hg : o.guard = none) (m x v : Operand) (t e : TypeId) (hop : o.op = Op.mapUpdate t m x v) (ht : Trym.prog.underlying t = some (.map 9 e)) (hm : a.eval m = .map (some b)) (hV : MapV w b mk f sz) (hn : sz < maxLen)
    (s : ByteArray) (hx : a.eval x = .string s) (hs : s.size ≤ maxLen) (y : β) (hv : a.eval v = mk y)
    (hK : ∀ w', MapV w' b mk (upd f s.data.toList (some y)) (if (f s.data.toList).isSome then sz else sz + 1) → w.mapTurned w' b → wpList Trym.prog ops Q rest (a.put o.dst undef) w') : wpList Trym.prog ops Q (o :: rest) a w := by
  refine wpList_plain hg fun K' hK' => ?_
  obtain ⟨w', hrun, r1, r2⟩ := hV.store ht hn hs y
  unfold Oper.wp
  simp [execOp, hop, hm, hx, hv, hrun, Result.andThen]
  exact hK' _ _ (hK w' r1 r2)
end

def St.first (s : St) : Int := s.roomW 0 0
def St.croom (s : St) (l : Ld) : Int := if s.first ≤ 1 then max 0 (min (s.roomW l.u l.w) (s.share l.u - l.u)) else s.roomW l.u l.w
def St.limit (s : St) : Int := if s.first ≤ 1 then s.free else s.first

theorem roomP_bd {free share E n win : Int} (hE : E ≤ 65536) (hn : 0 ≤ n) : 0 ≤ roomP free share E n win ∧ roomP free share E n win ≤ 65536 := by
  unfold roomP; omega

theorem St.Ok.looked {s : St} (ok : s.Ok) (L : Int) (h0 : 0 ≤ L) (h1 : L ≤ 1000000) : ({ s with L := L } : St).Ok :=
  ⟨ok.T0, ok.T1, ok.E0, ok.E1, ok.N0, ok.N1, h0, h1, ok.bn, ok.rn, ok.on_, ok.by_, ok.re, ok.ol⟩

/-- What a round of a claim's loop leaves. -/
def ClaimRel (w : World) (sb bm br bo bR r : Nat) (s : St) (wr : World) : Prop :=
  ∃ left cnt m, RangeV wr bm r Ld.val s.by_ s.bn left cnt ∧ (∀ k, left k = true → (s.by_ k).isSome = true) ∧
    MapV wr bR (Value.int .i64) (fun k => if left k then none else (s.by_ k).map s.croom) m ∧ m + cnt ≤ s.bn ∧ SH wr sb bm br bo { s with L := s.L + 1 } ∧ Ch [sb] w wr

theorem claim_round {w : World} {sb bm br bo bR r : Nat} {s : St} {wr w1 w2 w3 : World} {left : List UInt8 → Bool} {cnt cnt1 m : Nat} {k : List UInt8} {l : Ld} {v : Int}
    (hrg : RangeV wr bm r Ld.val s.by_ s.bn left cnt) (hsub : ∀ k, left k = true → (s.by_ k).isSome = true) (hV : MapV wr bR (Value.int .i64) (fun k => if left k then none else (s.by_ k).map s.croom) m) (hm : m + cnt ≤ s.bn) (hS : SH wr sb bm br bo { s with L := s.L + 1 }) (hC : Ch [sb] w wr)
    (hlk : left k = true) (hx : s.by_ k = some l) (hrg1 : RangeV w1 bm r Ld.val s.by_ s.bn (fun x => left x && !(x == k)) cnt1) (hlt : cnt1 < cnt) (hg1 : wr.grownBy w1 (some r)) (hb2 : Below w1.heap.size w1 w2)
    (hv : v = s.croom l) (hV3 : MapV w3 bR (Value.int .i64) (upd (fun k => if left k then none else (s.by_ k).map s.croom) k (some v)) (m + 1)) (ht : w2.mapTurned w3 bR) (hr : w.heap.size ≤ r) (hR : w.heap.size ≤ bR) (hne : bR ≠ bm) (hn1 : bR ≠ br) (hn2 : bR ≠ bo) :
    ClaimRel w sb bm br bo bR r s w3 ∧ w3.rangeLeft bm r = cnt1 := by
  have hct := Ch.of_turned ht
  have hc1 := Ch.of_grown hg1
  have hc2 := Ch.of_below hb2 []
  have hRr := hrg.not_map hV
  have s1 : SH w1 sb bm br bo { s with L := s.L + 1 } := hS.kept hc1 (by simpa using hrg.not_cells hS.blk) (by simpa using hrg.not_map hS.m) (by simpa using hrg.not_map hS.r) (by simpa using hrg.not_map hS.o)
  have s2 := s1.later hb2
  have s3 : SH w3 sb bm br bo { s with L := s.L + 1 } := s2.kept hct (by simpa using (hV.of_block (hc1.block _ hV.lt (by simpa using hRr))).not_cells s1.blk) (by simpa using hne.symm) (by simpa using hn1.symm) (by simpa using hn2.symm)
  have r2 := hrg1.of_blocks (hc2.block _ hrg1.map.lt (by simp)) (hc2.block _ hrg1.lt (by simp))
  have r3 := r2.of_blocks (hct.block _ r2.map.lt (by simpa using hne.symm)) (hct.block _ r2.lt (by simpa using hRr.symm))
  refine ⟨⟨_, cnt1, m + 1, r3, fun x hx' => hsub x (by simp at hx'; exact hx'.1), hV3.congr ?_, by omega, s3, ?_⟩, r3.left_eq⟩
  · intro x
    unfold upd
    by_cases e : x = k
    · subst e
      simp [hx, hv]
    · simp [e]
  · refine ((hC.andThen hc1 (fun i hi => ?_)).andThen hc2 (by simp)).andThen hct (fun i hi => ?_)
    · simp at hi; subst hi; exact .inr hr
    · simp at hi; subst hi; exact .inr hR
end Go.Proofs.Qxb6001173aMods
