/- Maps keyed by strings, seen as functions from the key's bytes to an entry. Built on the kit's laws on maps, with every element read as the value that it is. -/
import Derived.Test.Qxb6001173aModsRows
import Derived.WalkKit
import Derived.Maps.RangeWalk
namespace Go.Proofs.Qxb6001173aMods
open Go.RowKit Go.Maps

theorem law9 : Keyed Trym.prog 9 := string_keyed Trym.underlying9
theorem zero61 (w : World) : (zeroValue 61).run Trym.prog w = .ok (.agg #[.int .i64 0, .int .i64 0, .int .i64 0]) w := by kernel_rfl
theorem zero69 (w : World) : (zeroValue 69).run Trym.prog w = .ok (.agg #[.int .i64 0, .int .i64 0]) w := by kernel_rfl
theorem zero3 (w : World) : (zeroValue 3).run Trym.prog w = .ok (.int .i64 0) w := by kernel_rfl
theorem zero9 (w : World) : (zeroValue 9).run Trym.prog w = .ok (.string ⟨#[]⟩) w := by kernel_rfl

/-- Every element reads as the value that it is. -/
def RV (v : Value) : Option (DataW Value × List MemPlace) := some (.held v, [])
def unheld : DataW Value → Value
  | .held v => v
  | _ => undef
def look (D : DataW Value) (s : List UInt8) : Option Value := if Maps.has D (.string s) then some (unheld (D.atKey (.string s) .nil)) else none

/-- Block b is a map of sz entries; at the key s it holds 'mk' of what f has at s. -/
def MapV {β : Type} (w : World) (b : Nat) (mk : β → Value) (f : List UInt8 → Option β) (sz : Nat) : Prop :=
  ∃ D, w.ownsMap Trym.prog 9 RV b sz D ∧ (∀ s, look D s = (f s).map mk) ∧ Maps.size D = sz

def upd {β : Type} (f : List UInt8 → Option β) (s : List UInt8) (v : Option β) : List UInt8 → Option β := fun k => if k = s then v else f k

theorem keyOf9 {s : ByteArray} (hs : s.size ≤ maxLen) : keyOf Trym.prog 9 (.string s) = some (.string s.data.toList) := WideMaps.keyOf_string_mk Trym.underlying9 hs

theorem has_look {D : DataW Value} {s : List UInt8} : Maps.has D (.string s) = (look D s).isSome := by
  unfold look
  cases Maps.has D (.string s) <;> rfl

theorem atKey_irrel {D : DataW Value} {k : Lit} (h : Maps.has D k = true) (z z' : DataW Value) : D.atKey k z = D.atKey k z' := by
  cases D with
  | map es =>
    rw [Maps.has_eq] at h
    obtain ⟨p, h1, h2⟩ := List.any_eq_true.1 h
    unfold DataW.atKey
    cases e : es.find? (fun p => p.1.sameKey k) with
    | some p => simp only [e]
    | none => exact absurd h2 (List.find?_eq_none.1 e _ h1)
  | _ => exact absurd h (by simp [Maps.has])

theorem look_val {D : DataW Value} {s : List UInt8} {z v : Value} (h : DataW.held v = D.atKey (.string s) (.held z)) : v = (look D s).getD z := by
  unfold look
  cases e : Maps.has D (.string s) with
  | false =>
    rw [Maps.atKey_of_not_has e] at h
    cases h
    simp
  | true =>
    rw [atKey_irrel e (.held z) .nil] at h
    rw [← h]
    simp [unheld]

section
variable {β : Type} {w : World} {b : Nat} {mk : β → Value} {f : List UInt8 → Option β} {sz : Nat}

theorem MapV.lt (h : MapV w b mk f sz) : b < w.heap.size := by
  obtain ⟨D, h1, _⟩ := h
  exact h1.lt

theorem MapV.of_block {w' : World} (h : MapV w b mk f sz) (hb : w'.heap[b]? = w.heap[b]?) : MapV w' b mk f sz := by
  obtain ⟨D, ⟨es, clock, h1, h2⟩, h3⟩ := h
  exact ⟨D, ⟨es, clock, hb.trans h1, h2⟩, h3⟩

/-- A map's block is no row of cells. -/
theorem MapV.not_cells (h : MapV w b mk f sz) {c : Array Value} {t : TypeId} {fr : Nat × Nat} {sb : Nat} (hs : w.heap[sb]? = some (.cells c t fr)) : sb ≠ b := by
  obtain ⟨D, ⟨es, clock, h1, _⟩, _⟩ := h
  intro e
  subst e
  rw [h1] at hs
  cases hs

theorem MapV.look_ok (h : MapV w b mk f sz) {t e : TypeId} (ht : Trym.prog.underlying t = some (.map 9 e)) {z : Value} (hz : (zeroValue e).run Trym.prog w = .ok z w) {s : ByteArray} (hs : s.size ≤ maxLen) :
    (Instr.lookup t (.map (some b)) (.string s) true).run Trym.prog w = .ok (.tuple #[((f s.data.toList).map mk).getD z, .bool (f s.data.toList).isSome]) w := by
  obtain ⟨D, h1, h2, _⟩ := h
  obtain ⟨v, ps, hrun, hv⟩ := h1.look_ok law9 ht hz (zd := .held z) (zp := []) rfl (keyOf9 hs)
  unfold RV at hv
  simp only [Option.some.injEq, Prod.mk.injEq] at hv
  rw [hrun, has_look, h2, look_val hv.1, h2]
  simp

theorem MapV.look_plain (h : MapV w b mk f sz) {t e : TypeId} (ht : Trym.prog.underlying t = some (.map 9 e)) {z : Value} (hz : (zeroValue e).run Trym.prog w = .ok z w) {s : ByteArray} (hs : s.size ≤ maxLen) :
    (Instr.lookup t (.map (some b)) (.string s) false).run Trym.prog w = .ok (((f s.data.toList).map mk).getD z) w := by
  obtain ⟨D, h1, h2, _⟩ := h
  obtain ⟨v, ps, hrun, hv⟩ := h1.lookup law9 ht hz (zd := .held z) (zp := []) rfl (keyOf9 hs)
  unfold RV at hv
  simp only [Option.some.injEq, Prod.mk.injEq] at hv
  rw [hrun, look_val hv.1, h2]

theorem MapV.len (h : MapV w b mk f sz) {t e : TypeId} (ht : Trym.prog.underlying t = some (.map 9 e)) (ty : TypeId) : (Builtin.len_ #[t] ty #[.map (some b)]).run Trym.prog w = .ok (.int .i64 sz) w := by
  obtain ⟨D, h1, h2, h3⟩ := h
  rw [h1.len ht ty, h3]

theorem lit_ne {a b : List UInt8} (h : a ≠ b) : Lit.string a ≠ Lit.string b := fun e => h (by cases e; rfl)

theorem look_put {D : DataW Value} (hD : IsMap D) (s k : List UInt8) (v : Value) : look (D.put (.string s) (.held v)) k = if k = s then some v else look D k := by
  unfold look
  by_cases e : k = s
  · subst e
    have hk : WideAt.IsKeyLit (Lit.string k) := trivial
    rw [Maps.has_put_same hD hk, Maps.atKey_put_same hD hk]
    simp [unheld]
  · rw [Maps.has_put_other (lit_ne e), Maps.atKey_put_other (lit_ne e)]
    simp [e]

theorem look_del {D : DataW Value} (s k : List UInt8) : look (D.del (.string s)) k = if k = s then none else look D k := by
  unfold look
  by_cases e : k = s
  · subst e
    rw [Maps.has_del_same]
    simp
  · rw [Maps.has_del_other (lit_ne e), Maps.atKey_del_other (lit_ne e)]
    simp [e]

/-- From a bound on the entries to their number. -/
theorem owns_size {n : Nat} {D : DataW Value} (h : w.ownsMap Trym.prog 9 RV b n D) : w.ownsMap Trym.prog 9 RV b (Maps.size D) D := by
  obtain ⟨es, clock, hb, F, hs, rfl⟩ := h
  exact ⟨es, clock, hb, F, by simp [Maps.size, length_sorted], rfl⟩

theorem MapV.store (h : MapV w b mk f sz) {t e : TypeId} (ht : Trym.prog.underlying t = some (.map 9 e)) (hn : sz < maxLen) {s : ByteArray} (hs : s.size ≤ maxLen) (x : β) :
    ∃ w', (Instr.mapUpdate t (.map (some b)) (.string s) (mk x)).run Trym.prog w = .ok () w' ∧ MapV w' b mk (upd f s.data.toList (some x)) (if (f s.data.toList).isSome then sz else sz + 1) ∧ w.mapTurned w' b := by
  obtain ⟨D, h1, h2, h3⟩ := h
  obtain ⟨w', hrun, hown, hturn⟩ := h1.store law9 ht hn (keyOf9 hs) (val := mk x) (d := .held (mk x)) (ps := []) rfl
  refine ⟨w', hrun, ⟨D.put (.string s.data.toList) (.held (mk x)), ?_, ?_, ?_⟩, hturn⟩
  · have := owns_size hown
    rw [Maps.size_put (h1.tidy law9), has_look, h2, h3] at this
    simpa using this
  · intro k
    rw [look_put h1.isMap, h2]
    unfold upd
    split <;> rfl
  · rw [Maps.size_put (h1.tidy law9), has_look, h2, h3]
    simp

theorem MapV.drop (h : MapV w b mk f sz) {t e : TypeId} (ht : Trym.prog.underlying t = some (.map 9 e)) {s : ByteArray} (hs : s.size ≤ maxLen) (ty : TypeId) :
    ∃ w', (Builtin.delete_ #[t, 9] ty #[.map (some b), .string s]).run Trym.prog w = .ok (.tuple #[]) w' ∧ MapV w' b mk (upd f s.data.toList none) (if (f s.data.toList).isSome then sz - 1 else sz) ∧ w.mapTurned w' b := by
  obtain ⟨D, h1, h2, h3⟩ := h
  obtain ⟨w', hrun, hown, hturn⟩ := h1.drop law9 ht (keyOf9 hs) ty
  have hsz : Maps.size (D.del (.string s.data.toList)) = if (f s.data.toList).isSome then sz - 1 else sz := by
    have := Maps.size_del (k := .string s.data.toList) (h1.tidy law9)
    rw [has_look, h2, h3] at this
    simp only [Option.isSome_map] at this
    split at this <;> rename_i hc <;> simp [hc] <;> omega
  refine ⟨w', hrun, ⟨D.del (.string s.data.toList), ?_, ?_, hsz⟩, hturn⟩
  · rw [← hsz]
    exact owns_size hown
  · intro k
    rw [look_del, h2]
    unfold upd
    split <;> rfl

theorem mapV_made (w : World) (mk : β → Value) : MapV (w.alloc (.map #[] 0)) w.heap.size mk (fun _ => none) 0 := by
  refine ⟨.map [], World.ownsMap_made _ _ _ _, fun s => ?_, rfl⟩
  simp [look, Maps.has]

/-- What a made map is seen as, does not hang on how its elements are made. -/
theorem MapV.alloc (h : MapV w b mk f sz) (o : Obj) : MapV (w.alloc o) b mk f sz := h.of_block (Below.heap_alloc w o b h.lt)

theorem MapV.congr {g : List UInt8 → Option β} (h : MapV w b mk f sz) (hg : ∀ k, g k = f k) : MapV w b mk g sz := by
  have : g = f := funext hg
  subst this
  exact h

/-! ### ranging -/

/-- 'for k, v := range m' under way over block b, the iterator in block r; 'left s': the entry at s is still to come; so many are. -/
def RangeV {β : Type} (w : World) (b r : Nat) (mk : β → Value) (f : List UInt8 → Option β) (sz : Nat) (left : List UInt8 → Bool) (cnt : Nat) : Prop :=
  ∃ D L, w.ranges Trym.prog 9 RV b r sz D L cnt ∧ (∀ s, look D s = (f s).map mk) ∧ Maps.size D = sz ∧ ∀ s, L (.string s) = left s

variable {r cnt : Nat} {left : List UInt8 → Bool}

theorem RangeV.map (h : RangeV w b r mk f sz left cnt) : MapV w b mk f sz := by
  obtain ⟨D, L, h1, h2, h3, _⟩ := h
  exact ⟨D, h1.owns, h2, h3⟩

theorem RangeV.lt (h : RangeV w b r mk f sz left cnt) : r < w.heap.size := by
  obtain ⟨D, L, h1, _⟩ := h
  exact h1.lt

theorem RangeV.ne (h : RangeV w b r mk f sz left cnt) : r ≠ b := by
  obtain ⟨D, L, h1, _⟩ := h
  exact h1.ne

theorem RangeV.left_eq (h : RangeV w b r mk f sz left cnt) : w.rangeLeft b r = cnt := by
  obtain ⟨D, L, h1, _⟩ := h
  exact h1.left_eq

theorem RangeV.of_blocks {w' : World} (h : RangeV w b r mk f sz left cnt) (hb : w'.heap[b]? = w.heap[b]?) (hr : w'.heap[r]? = w.heap[r]?) : RangeV w' b r mk f sz left cnt := by
  obtain ⟨D, L, ⟨es, clock, since, seen, c0, g1, g2, g3, g4, g5, g6⟩, h2⟩ := h
  exact ⟨D, L, ⟨es, clock, since, seen, c0, hb.trans g1, g2, g3, g4, hr.trans g5, g6⟩, h2⟩

/-- The iterator's block is no row of cells. -/
theorem RangeV.not_cells (h : RangeV w b r mk f sz left cnt) {c : Array Value} {t : TypeId} {fr : Nat × Nat} {sb : Nat} (hs : w.heap[sb]? = some (.cells c t fr)) : sb ≠ r := by
  obtain ⟨D, L, ⟨es, clock, since, seen, c0, g1, g2, g3, g4, g5, g6⟩, h2⟩ := h
  intro e
  subst e
  rw [g5] at hs
  cases hs

/-- The iterator's block is no map. -/
theorem RangeV.not_map {γ : Type} {mk' : γ → Value} {f' : List UInt8 → Option γ} {sz' b' : Nat} (h : RangeV w b r mk f sz left cnt) (hm : MapV w b' mk' f' sz') : b' ≠ r := by
  obtain ⟨D, L, ⟨es, clock, since, seen, c0, g1, g2, g3, g4, g5, g6⟩, h2⟩ := h
  obtain ⟨D', ⟨es', clock', h1, _⟩, _⟩ := hm
  intro e
  subst e
  rw [g5] at h1
  cases h1

theorem MapV.range (h : MapV w b mk f sz) {t e : TypeId} (ht : Trym.prog.underlying t = some (.map 9 e)) :
    ∃ w', (Instr.range t (.map (some b))).run Trym.prog w = .ok (.pointer (some ⟨w.heap.size, 0, none⟩)) w' ∧ RangeV w' b w.heap.size mk f sz (fun s => (f s).isSome) sz ∧ w.grownBy w' none ∧ w'.heap.size = w.heap.size + 1 := by
  obtain ⟨D, h1, h2, h3⟩ := h
  obtain ⟨w', hrun, hr, hg, hs⟩ := h1.range law9 ht
  rw [h3] at hr
  refine ⟨w', hrun, ⟨D, Maps.has D, hr, h2, h3, fun s => ?_⟩, hg, hs⟩
  rw [has_look, h2]
  simp

theorem RangeV.next (h : RangeV w b r mk f sz left cnt) (ty : TypeId) :
    (cnt = 0 ∧ (∀ s, left s = false) ∧ (Instr.next (.pointer (some ⟨r, 0, none⟩)) false ty).run Trym.prog w = .ok (.tuple #[.bool false]) w) ∨
    ∃ (s : ByteArray) (x : β) (w' : World) (cnt' : Nat), s.size ≤ maxLen ∧ left s.data.toList = true ∧ f s.data.toList = some x ∧
      (Instr.next (.pointer (some ⟨r, 0, none⟩)) false ty).run Trym.prog w = .ok (.tuple #[.bool true, .string s, mk x]) w' ∧
      RangeV w' b r mk f sz (fun k => left k && !(k == s.data.toList)) cnt' ∧ cnt' < cnt ∧ w.grownBy w' (some r) ∧ w'.heap.size = w.heap.size ∧
      (Instr.entry (.pointer (some ⟨r, 0, none⟩))).run Trym.prog w' = .ok (.tuple #[.string s, mk x]) w' := by
  obtain ⟨D, L, h1, h2, h3, h4⟩ := h
  rcases h1.next law9 ty with ⟨h0, hl, hrun⟩ | ⟨key, v, kl, y, w', cnt', hkey, hlk, hv, hat, hrun, hrg, hlt, hgr, hsz, hen⟩
  · exact .inl ⟨h0, fun s => by rw [← h4]; exact hl _, hrun⟩
  · obtain ⟨s, rfl, rfl, hs⟩ := WideMaps.string_of_keyOf Trym.underlying9 hkey
    unfold RV at hv
    obtain rfl : (DataW.held v, []) = y := Option.some.inj hv
    have hhas : Maps.has D (.string s.data.toList) = true := Maps.has_true_of_atKey hat
    have hlook : look D s.data.toList = some v := by
      unfold look
      rw [hhas, hat .nil]
      rfl
    rw [h2] at hlook
    obtain ⟨x, hx, rfl⟩ := Option.map_eq_some_iff.1 hlook
    refine .inr ⟨s, x, w', cnt', hs, by rw [← h4]; exact hlk, hx, hrun, ⟨D, _, hrg, h2, h3, fun k => ?_⟩, hlt, hgr, hsz, hen⟩
    show (L (.string k) && !(Lit.string k).sameKey (.string s.data.toList)) = _
    rw [h4]
    by_cases e : k = s.data.toList
    · subst e
      have hk : WideAt.IsKeyLit (Lit.string s.data.toList) := trivial
      rw [WideAt.sameKey_self hk]
      simp
    · rw [Maps.sameKey_ne (lit_ne e)]
      simp [e]

end

end Go.Proofs.Qxb6001173aMods
