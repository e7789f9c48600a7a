/- Rows of numbers; the great array of counts. -/
import Derived.Test.Qxb6003649aModsSame
import Derived.Test.Qxb6003649aModsPure2
import Derived.Laws.BitsAllLaws
namespace Go.Proofs.Qxb6003649aMods
open Go.RowKit
set_option linter.unusedVariables false

set_option maxRecDepth 100000 in
theorem zero61 : (Trym.prog.info? 61).map (fun i => i.zero.map (·.cells)) = some (some (Array.replicate 6144 (.int .i64 0))) := by kernel_rfl

theorem run_alloc_row {P : Program} (t : TypeId) (cs : Array Value) (h : (P.info? t).map (fun i => i.zero.map (·.cells)) = some (some cs)) (w : World) :
    (Instr.alloc t true (.tuple #[])).run P w = .ok (.pointer (some ⟨w.heap.size, 0, none⟩)) (w.alloc (.cells cs t)) := by
  obtain ⟨i, hi, hz⟩ := Option.map_eq_some_iff.1 h
  obtain ⟨z, hz1, hz2⟩ := Option.map_eq_some_iff.1 hz
  subst hz2
  simp [Instr.alloc, zeroValue, typeInfo, hi, hz1, newVar, newRow]

theorem wpList_alloc_row {P : Program} {w : World} {ops : Array Oper} {rest : List Oper} {o : Oper} {a : Act} {Q : Exit → Act → World → Prop} (hg : o.guard = none) (t : TypeId) (hop : o.op = Op.alloc t) (cs : Array Value)
    (h : (P.info? t).map (fun i => i.zero.map (·.cells)) = some (some cs)) (hK : wpList P ops Q rest (a.put o.dst (.pointer (some ⟨w.heap.size, 0, none⟩))) (w.alloc (.cells cs t))) : wpList P ops Q (o :: rest) a w := by
  refine wpList_plain hg fun K hK' => ?_
  have hrun := run_alloc_row (P := P) t cs h w
  unfold Oper.wp
  simp [execOp, hop, hrun, Result.andThen]
  exact hK' _ _ hK

/-- A row of numbers of one kind. -/
def TRow (k : IntKind) (t : TypeId) (w : World) (b n : Nat) (f : Nat → Nat) : Prop := w.rowIs b t n (fun i => .int k (f i : Int))

section
variable {k : IntKind} {t : TypeId} {w w' : World} {b n : Nat} {f g : Nat → Nat}
theorem TRow.cell (h : TRow k t w b n f) {i : Nat} (hi : i < n) : w.cell? ⟨b, i, none⟩ = some (.int k (f i : Int)) := World.rowIs.cell h hi
theorem TRow.frozen (h : TRow k t w b n f) (i : Nat) : w.frozen? ⟨b, i, none⟩ = false := World.rowIs.frozen h i
theorem TRow.set (h : TRow k t w b n f) (i v : Nat) : TRow k t (w.setCell ⟨b, i, none⟩ (.int k (v : Int))) b n (fun x => if x = i then v else f x) :=
  (World.rowIs.set h i _).congr (fun j _ => by by_cases e : j = i <;> simp [e])
theorem TRow.other (h : TRow k t w b n f) {c i : Nat} (hc : b ≠ c) (v : Value) : TRow k t (w.setCell ⟨c, i, none⟩ v) b n f := World.rowIs.setOther h hc v
theorem TRow.congr (h : TRow k t w b n f) (e : ∀ i, i < n → f i = g i) : TRow k t w b n g := World.rowIs.congr h (fun i hi => by rw [e i hi])
theorem TRow.of_block (h : TRow k t w b n f) (e : w'.heap[b]? = w.heap[b]?) : TRow k t w' b n f := World.rowIs.of_block h e
theorem TRow.drewN (h : TRow k t w b n f) (m : Nat) : TRow k t (w.drewN m) b n f := h
theorem TRow.drew (h : TRow k t w b n f) : TRow k t w.drew b n f := h
theorem TRow.lt (h : TRow k t w b n f) : b < w.heap.size := World.rowIs.lt h
end

theorem run_loadVar_part {P : Program} (w : World) (a : Addr) (ty : TypeId) (cs : Array Value) (d : TypeDesc) (hc : ∀ j v, cs.toList[j]? = some v → w.cell? (a.add j) = some v)
    (hu : P.underlying ty = some d) (hd : (match d with | .struct _ | .array _ _ => true | _ => false) = true) (hi : (P.info? ty).map (·.size) = some cs.size) :
    (loadVar ty a).run P w = .ok (.agg cs) w := by
  have hl : (loadCells a cs.toList.length).run P w = .ok cs.toList.toArray w := run_loadCells_list (P := P) w a cs.toList hc
  cases hq : P.info? ty with
  | none => simp [hq] at hi
  | some i =>
    have hs : i.size = cs.size := by simpa [hq] using hi
    have hagg : (isAgg ty).run P w = .ok true w := by
      unfold isAgg
      rw [Sem.run_bind, run_underlying hu w]
      cases d <;> simp_all
    simp only [Array.length_toList, Array.toArray_toList] at hl
    simp [loadVar, Sem.run_bind, hagg, sizeOf, typeInfo, hq, hs, hl]

theorem wpList_load_part {P : Program} {ops : Array Oper} {rest : List Oper} {o : Oper} {a : Act} {w : World} {Q : Exit → Act → World → Prop} (hgd : o.guard = none) (ty : TypeId) (x : Operand) (ho : o.op = .load ty x)
    (ad : Addr) (hx : a.eval x = .pointer (some ad)) (cs : Array Value) (d : TypeDesc) (hc : ∀ j v, cs.toList[j]? = some v → w.cell? (ad.add j) = some v)
    (hu : P.underlying ty = some d) (hd : (match d with | .struct _ | .array _ _ => true | _ => false) = true) (hi : (P.info? ty).map (·.size) = some cs.size)
    (h : wpList P ops Q rest (a.put o.dst (.agg cs)) w) : wpList P ops Q (o :: rest) a w := by
  refine wpList_plain hgd fun K hK => ?_
  unfold Oper.wp execOp
  simp only [ho, hx, Instr.loadAt, Instr.sureAddr, Sem.run_bind, Sem.run_pure, Result.andThen_ok, run_loadVar_part w ad ty cs d hc hu hd hi]
  exact hK _ _ h

theorem run_index_row {P : Program} (t e : TypeId) (n : Nat) (k : IntKind) (cs : Array Value) (kk : IntKind) (v : Nat) (x : Value) (h : P.underlying t = some (.array n e)) (he : P.underlying e = some (.int k)) (hs : (P.info? e).map (·.size) = some 1)
    (hv : v < n) (hx : cs[v]? = some x) (w : World) : (Instr.index t (.agg cs) (.int kk (v : Int))).run P w = .ok x w := by
  cases hq : P.info? e with
  | none => simp [hq] at hs
  | some i =>
    have hs1 : i.size = 1 := by simpa [hq] using hs
    have hagg : (isAgg e).run P w = .ok false w := by
      unfold isAgg
      rw [Sem.run_bind, run_underlying he w]
      simp
    have hb : (0 : Int) ≤ (v : Int) ∧ (v : Int) < (n : Int) := by omega
    simp [Instr.index, run_underlying h, asIntOf, hb, go_sem, part, sizeOf, typeInfo, hq, hs1, hagg, hx]
    intro h0
    omega

theorem size3 : (Trym.prog.info? 3).map (·.size) = some 1 := by kernel_rfl
theorem info60 : (Trym.prog.info? 60).map (·.size) = some 2048 := by kernel_rfl

/-- The sum of the counts of digit d below v. -/
def ST (Q : Nat → Nat) (n d v : Nat) : Nat := cnt n (fun x => decide (dg d (Q x) < v))
theorem ST_le (Q : Nat → Nat) (n d v : Nat) : ST Q n d v ≤ n := cnt_le _ _
theorem ST_zero (Q : Nat → Nat) (n d : Nat) : ST Q n d 0 = 0 := cnt_zero (fun x _ => by simp)
theorem S1_ST (Q : Nat → Nat) (n d v : Nat) (hv : v < 2048) : S1 Q n (d * 2048 + v) = ST Q n d v := by
  unfold S1 ST
  obtain ⟨e1, e2⟩ := idx_div (d := d) hv
  rw [e1, e2]
theorem ST_succ (Q : Nat → Nat) (n d v : Nat) (hv : v < 2048) : ST Q n d (v + 1) = ST Q n d v + C1 Q n (d * 2048 + v) := by
  unfold ST C1
  obtain ⟨e1, e2⟩ := idx_div (d := d) hv
  rw [e1, e2]
  refine cnt_add (fun x hx => ⟨?_, ?_⟩)
  · by_cases h1 : dg d (Q x) < v <;> by_cases h2 : dg d (Q x) = v <;> simp [h1, h2] <;> omega
  · simp only [decide_eq_true_eq]; omega

theorem next_part {w : World} {N m : Nat} {f : Nat → Nat} (h : TRow .i64 61 w N 6144 f) (hm : m + 2048 ≤ 6144) :
    ∃ cs : Array Value, cs.size = 2048 ∧ (∀ v, v < 2048 → cs[v]? = some (.int .i64 (f (m + v) : Int))) ∧ ∀ j v, cs.toList[j]? = some v → w.cell? ((⟨N, m, none⟩ : Addr).add j) = some v := by
  refine ⟨((List.range 2048).map (fun v => Value.int .i64 (f (m + v) : Int))).toArray, by simp, fun v hv => by simp [hv], fun j v hj => ?_⟩
  have hj2 : j < 2048 := by
    have := (List.getElem?_eq_some_iff.1 hj).1
    simpa using this
  have e : v = .int .i64 (f (m + j) : Int) := by simpa [hj2] using hj.symm
  subst e
  have hadd : (⟨N, m, none⟩ : Addr).add j = ⟨N, m + j, none⟩ := by unfold Addr.add; split <;> simp_all
  rw [hadd]
  exact h.cell (by omega)

theorem mask2047 (x : Nat) : x &&& 2047 = x % 2048 := Nat.and_two_pow_sub_one_eq_mod x 11
theorem and64 (x : Nat) (hx : x < 18446744073709551616) : bits .and .u64 (x : Int) 2047 = ((x % 2048 : Nat) : Int) := by
  rw [← mask2047]; exact u64_and_nat x 2047 hx (by omega)
theorem and32 (x : Nat) (hx : x < 4294967296) : bits .and .u32 (x : Int) 2047 = ((x % 2048 : Nat) : Int) := by
  rw [← mask2047]; exact u32_and_nat x 2047 hx (by omega)
theorem digit0 {p q : Nat} (hp : p < 18446744073709551616) (hq : q = p / 4294967296) : bits .and .u64 ((p : Int) / 4294967296) 2047 = ((dg 0 q : Nat) : Int) := by
  have := and64 (p / 4294967296) (by omega)
  rw [hq]; exact this
theorem digit1 {p q : Nat} (hp : p < 18446744073709551616) (hq : q = p / 4294967296) : bits .and .u64 ((p : Int) / 8796093022208) 2047 = ((dg 1 q : Nat) : Int) := by
  have := and64 (p / 8796093022208) (by omega)
  rw [hq]; show _ = ((p / 4294967296 / 2048 % 2048 : Nat) : Int); rw [Nat.div_div_eq_div_mul]; exact this
theorem digit2 {p q : Nat} (hp : p < 18446744073709551616) (hq : q = p / 4294967296) : bits .and .u64 ((p : Int) / 18014398509481984) 2047 = ((dg 2 q : Nat) : Int) := by
  have := and64 (p / 18014398509481984) (by omega)
  rw [hq]; show _ = ((p / 4294967296 / 4194304 % 2048 : Nat) : Int); rw [Nat.div_div_eq_div_mul]; exact this
theorem CM_le (Q : Nat → Nat) (j d i : Nat) : CM Q j d i ≤ j + 1 := by
  unfold CM
  have h1 := C1_le Q (j + 1) i
  have h2 := C1_le Q j i
  split <;> omega
theorem CM_set {Q : Nat → Nat} {j d : Nat} {wr : World} {N v : Nat} (hT : TRow .i64 61 wr N 6144 (CM Q j d)) (hv : v = dg d (Q j)) :
    TRow .i64 61 (wr.setCell ⟨N, d * 2048 + v, none⟩ (.int .i64 ((CM Q j d (d * 2048 + v) + 1 : Nat) : Int))) N 6144 (CM Q j (d + 1)) := by
  subst hv
  refine (hT.set _ _).congr (fun i _ => ?_)
  rw [← CM_step]
  by_cases e : i = d * 2048 + dg d (Q j)
  · rw [if_pos e, if_pos e, e]
  · rw [if_neg e, if_neg e]

theorem next_new (w : World) : TRow .i64 61 (w.alloc (.cells (Array.replicate 6144 (.int .i64 0)) 61)) w.heap.size 6144 (fun _ => 0) :=
  ⟨_, Deep.blk_alloc_new _ _, by simp, fun i hi => by simp [hi]⟩

end Go.Proofs.Qxb6003649aMods
