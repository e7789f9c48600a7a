/- Walks: free, share, roomWith, resting, load, room. -/
import Derived.Test.Qxb6001173aModsState
import Derived.BigQuiet
import Derived.Deep.QuietTactic
import Derived.Lib.MinMax
namespace Go.Proofs.Qxb6001173aMods
open Go.RowKit Go.Maps
set_option linter.unusedVariables false

set_option maxHeartbeats 400000 in
theorem free_any {w : World} {sb bm br bo : Nat} {s : St} (h : SH w sb bm br bo s) (ok : s.Ok) :
    Calls Trym.prog 36 #[.pointer (some ⟨sb, 0, none⟩)] w fun e w' => e = .returned (.int .i64 s.free) ∧ ∃ k, w' = w.drewN k := by
  obtain ⟨t0, t1, e0, e1, n0, n1, -, -, -, -, -, -, -, -⟩ := ok
  have c0 := h.blk.c0
  have c2 := h.blk.c2
  clear h
  generalize hT : s.T = T at *
  generalize hN : s.N = N at *
  have hF : Hid (s.free = max 0 (T - N)) := by unfold St.free Hid; rw [hT, hN]
  clear hT hN e0 e1
  go_enter Trym.func36, Trym.ntmps36
  go_wp2
  go_quiet (fail)
  go_wp2
  all_goals (go_ret; refine ⟨ret_int ?_, _, rfl⟩; rw [hF.out])

theorem share_any {w : World} {sb bm br bo : Nat} {s : St} (h : SH w sb bm br bo s) (ok : s.Ok) (n : Int) :
    Calls Trym.prog 43 #[.pointer (some ⟨sb, 0, none⟩), .int .i64 n] w fun e w' => e = .returned (.int .i64 (s.share n)) ∧ w' = w := by
  obtain ⟨t0, t1, e0, e1, n0, n1, -, -, hbn, -, -, -, -, -⟩ := ok
  have c0 := h.blk.c0
  have c3 := h.blk.c3
  have hlen := fun ty => h.m.len Trym.underlying49 ty
  clear h
  go_enter Trym.func43, Trym.ntmps43
  go_wp2
  all_goals (go_ret; refine ⟨ret_int ?_, rfl⟩; unfold St.share; simp_all)

theorem share_bd {s : St} (ok : s.Ok) (n : Int) : 0 ≤ s.share n ∧ s.share n ≤ 65536 := by
  obtain ⟨t0, t1, -, -, -, -, -, -, -, -, -, -, -, -⟩ := ok
  unfold St.share
  have hd : (1 : Int) ≤ (s.bn : Int) + (if n = 0 then 1 else 0) + 1 := by split <;> omega
  constructor
  · exact Int.ediv_nonneg t0 (by omega)
  · exact Int.le_trans (Int.ediv_le_self _ t0) t1

theorem free_bd {s : St} (ok : s.Ok) : 0 ≤ s.free ∧ s.free ≤ 1065536 := by
  obtain ⟨t0, t1, -, -, n0, n1, -, -, -, -, -, -, -, -⟩ := ok
  unfold St.free
  omega

theorem drewN_SH {w : World} {sb bm br bo : Nat} {s : St} (h : SH w sb bm br bo s) (k : Nat) : SH (w.drewN k) sb bm br bo s := h.kept (Ch.drewN w k []) (by simp) (by simp) (by simp) (by simp)

set_option maxHeartbeats 400000 in
theorem roomWith_any {w : World} {sb bm br bo : Nat} {s : St} (h : SH w sb bm br bo s) (ok : s.Ok) (n win : Int) (n0 : 0 ≤ n) (n1 : n ≤ 1000000) (w0 : 0 ≤ win) (w1 : win ≤ 1000000) :
    Calls Trym.prog 42 #[.pointer (some ⟨sb, 0, none⟩), .int .i64 n, .int .i64 win] w fun e w' => e = .returned (.int .i64 (s.roomW n win)) ∧ ∃ k, w' = w.drewN k := by
  have c1 := h.blk.c1
  have hf := free_bd ok
  have hs := share_bd ok n
  have e0 := ok.E0
  have e1 := ok.E1
  have HR : Hid (∀ f sh E, f = s.free → sh = s.share n → E = s.E → s.roomW n win = roomP f sh E n win) := by
    intro f sh E h1 h2 h3; subst h1 h2 h3; rfl
  have HH := h
  have HOK := ok
  go_enter Trym.func42, Trym.ntmps42
  go_wp2_with fail
  refine (free_any HH HOK).mono ?_
  rintro e w' ⟨rfl, k1, rfl⟩
  go_wp2_with fail
  refine (share_any (drewN_SH HH k1) HOK n).mono ?_
  rintro e w' ⟨rfl, rfl⟩
  clear HH HOK h ok
  generalize hF : s.free = F at *
  generalize hS : s.share n = Sh at *
  generalize hE : s.E = E at *
  have HQ : Hid (s.roomW n win = roomP F Sh E n win) := HR.out _ _ _ rfl rfl rfl
  clear HR hF hS hE
  go_wp2
  all_goals (go_ret; refine ⟨ret_int ?_, _, rfl⟩; rw [HQ.out]; unfold roomP; omega)

theorem look_ld {f : List UInt8 → Option Ld} {k : List UInt8} {l : Ld} (h : f k = some l) (z : Value) : ((f k).map Ld.val).getD z = .agg #[.int .i64 l.u, .int .i64 l.w, .int .i64 l.g] := by rw [h]; rfl
theorem look_ld0 {f : List UInt8 → Option Ld} {k : List UInt8} (h : f k = none) (z : Value) : ((f k).map Ld.val).getD z = z := by rw [h]; rfl
theorem look_rs {f : List UInt8 → Option Rs} {k : List UInt8} {l : Rs} (h : f k = some l) (z : Value) : ((f k).map Rs.val).getD z = .agg #[.int .i64 l.w, .int .i64 l.t] := by rw [h]; rfl
theorem look_rs0 {f : List UInt8 → Option Rs} {k : List UInt8} (h : f k = none) (z : Value) : ((f k).map Rs.val).getD z = z := by rw [h]; rfl

section
variable {β : Type} {mk : β → Value} {f : List UInt8 → Option β} {sz b : Nat} (w : World) {ops : Array Oper} {rest : List Oper} {o : Oper} {a : Act} {Q : Exit → Act → World → Prop}
/-- 'v, ok := m[k]' at the operation. -/
theorem wpList_lookOk (hg : o.guard = none) (m x : Operand) (t e : TypeId) (hop : o.op = Op.lookup t m x true) (ht : Trym.prog.underlying t = some (.map 9 e)) {z : Value} (hz : (zeroValue e).run Trym.prog w = .ok z w)
    (hm : a.eval m = .map (some b)) (hV : MapV w b mk f sz) (s : ByteArray) (hx : a.eval x = .string s) (hs : s.size ≤ maxLen) (v : Value) (ok : Bool) (hv : ((f s.data.toList).map mk).getD z = v) (hok : (f s.data.toList).isSome = ok)
    (hK : wpList Trym.prog ops Q rest (a.put o.dst (.tuple #[v, .bool ok])) w) : wpList Trym.prog ops Q (o :: rest) a w := by
  refine wpList_plain hg fun K' hK' => ?_
  have hrun := hV.look_ok ht hz hs
  rw [hv, hok] at hrun
  unfold Oper.wp
  simp [execOp, hop, hm, hx, hrun, Result.andThen]
  exact hK' _ _ hK
/-- 'm[k]' at the operation. -/
theorem wpList_lookV (hg : o.guard = none) (m x : Operand) (t e : TypeId) (hop : o.op = Op.lookup t m x false) (ht : Trym.prog.underlying t = some (.map 9 e)) {z : Value} (hz : (zeroValue e).run Trym.prog w = .ok z w)
    (hm : a.eval m = .map (some b)) (hV : MapV w b mk f sz) (s : ByteArray) (hx : a.eval x = .string s) (hs : s.size ≤ maxLen) (v : Value) (hv : ((f s.data.toList).map mk).getD z = v)
    (hK : wpList Trym.prog ops Q rest (a.put o.dst v) w) : wpList Trym.prog ops Q (o :: rest) a w := by
  refine wpList_plain hg fun K' hK' => ?_
  have hrun := hV.look_plain ht hz hs
  rw [hv] at hrun
  unfold Oper.wp
  simp [execOp, hop, hm, hx, hrun, Result.andThen]
  exact hK' _ _ hK
end

set_option maxHeartbeats 400000 in
theorem resting_re {w : World} {sb bm br bo : Nat} {s : St} (h : SH w sb bm br bo s) (k : ByteArray) (hk : k.size ≤ maxLen) (r : Rs) (hr : s.re k.data.toList = some r) :
    Calls Trym.prog 45 #[.pointer (some ⟨sb, 0, none⟩), .string k] w fun e w' => (∃ o, e = .returned (.tuple #[.agg #[.int .i64 r.w, .int .i64 r.t], .map o])) ∧ Below w.heap.size w w' := by
  have c5 := h.blk.c5
  have hb := h.blk.lt
  have hV := h.r
  have HV := look_rs hr (.agg #[.int .i64 0, .int .i64 0])
  have HO : (s.re k.data.toList).isSome = true := by rw [hr]; rfl
  clear h hr
  go_enter Trym.func45, Trym.ntmps45
  go_wp2_with (at_lookup; refine wpList_lookOk _ rfl _ _ 50 69 rfl Trym.underlying50 (zero69 _) rfl (hV.alloc _) k rfl hk _ true HV HO ?_; clear HV HO)
  go_region
  all_goals go_wp2
  all_goals exact bodyPost_ret (v := .tuple #[.agg #[.int .i64 r.w, .int .i64 r.t], .map (some br)]) (by simp [results, Trym.results45, go_sem]) rfl ⟨⟨_, rfl⟩, (((Below.refl _ _).alloc (Nat.le_refl _) _).alloc (by simp) _).drew⟩

set_option maxHeartbeats 400000 in
theorem resting_ol {w : World} {sb bm br bo : Nat} {s : St} (h : SH w sb bm br bo s) (k : ByteArray) (hk : k.size ≤ maxLen) (r : Rs) (h0 : s.re k.data.toList = none) (hr : s.ol k.data.toList = some r) :
    Calls Trym.prog 45 #[.pointer (some ⟨sb, 0, none⟩), .string k] w fun e w' => (∃ o, e = .returned (.tuple #[.agg #[.int .i64 r.w, .int .i64 r.t], .map o])) ∧ Below w.heap.size w w' := by
  have c5 := h.blk.c5
  have c6 := h.blk.c6
  have hb := h.blk.lt
  have hV := h.r
  have hU := h.o
  have HV := look_rs0 h0 (.agg #[.int .i64 0, .int .i64 0])
  have HO : (s.re k.data.toList).isSome = false := by rw [h0]; rfl
  have HV2 := look_rs hr (.agg #[.int .i64 0, .int .i64 0])
  have HO2 : (s.ol k.data.toList).isSome = true := by rw [hr]; rfl
  clear h hr h0
  go_enter Trym.func45, Trym.ntmps45
  go_wp2_with (first | (at_lookup; refine wpList_lookOk _ rfl (.tmp 14) _ 50 69 rfl Trym.underlying50 (zero69 _) rfl (hV.alloc _) k rfl hk _ false HV HO ?_; clear HV HO) | (at_lookup; refine wpList_lookOk _ rfl (.tmp 29) _ 50 69 rfl Trym.underlying50 (zero69 _) rfl ((hU.alloc _).alloc _) k rfl hk _ true HV2 HO2 ?_; clear HV2 HO2))
  have c6' : ∀ o1 o2 o3, (((w.alloc o1).alloc o2).alloc o3).cell? ⟨sb, 6, none⟩ = some (.map (some bo)) := fun o1 o2 o3 =>
    (Below.cell (p := ⟨sb, 6, none⟩) ((((Below.refl _ _).alloc (Nat.le_refl _) o1).alloc (by simp) o2).alloc (by simp; omega) o3) hb).trans c6
  go_region
  all_goals go_wp2
  all_goals exact bodyPost_ret (v := .tuple #[.agg #[.int .i64 r.w, .int .i64 r.t], .map (some bo)]) (by simp [results, Trym.results45, go_sem]) rfl ⟨⟨_, rfl⟩, ((((Below.refl _ _).alloc (Nat.le_refl _) _).alloc (by simp) _).alloc (by simp; omega) _).drew⟩

set_option maxHeartbeats 400000 in
theorem resting_no {w : World} {sb bm br bo : Nat} {s : St} (h : SH w sb bm br bo s) (k : ByteArray) (hk : k.size ≤ maxLen) (h0 : s.re k.data.toList = none) (hr : s.ol k.data.toList = none) :
    Calls Trym.prog 45 #[.pointer (some ⟨sb, 0, none⟩), .string k] w fun e w' => (∃ o, e = .returned (.tuple #[.agg #[.int .i64 0, .int .i64 0], .map o])) ∧ Below w.heap.size w w' := by
  have c5 := h.blk.c5
  have c6 := h.blk.c6
  have hb := h.blk.lt
  have hV := h.r
  have hU := h.o
  have HV := look_rs0 h0 (.agg #[.int .i64 0, .int .i64 0])
  have HO : (s.re k.data.toList).isSome = false := by rw [h0]; rfl
  have HV2 := look_rs0 hr (.agg #[.int .i64 0, .int .i64 0])
  have HO2 : (s.ol k.data.toList).isSome = false := by rw [hr]; rfl
  clear h hr h0
  go_enter Trym.func45, Trym.ntmps45
  go_wp2_with (first | (at_lookup; refine wpList_lookOk _ rfl (.tmp 14) _ 50 69 rfl Trym.underlying50 (zero69 _) rfl (hV.alloc _) k rfl hk _ false HV HO ?_; clear HV HO) | (at_lookup; refine wpList_lookOk _ rfl (.tmp 29) _ 50 69 rfl Trym.underlying50 (zero69 _) rfl ((hU.alloc _).alloc _) k rfl hk _ false HV2 HO2 ?_; clear HV2 HO2))
  all_goals exact bodyPost_ret (v := .tuple #[.agg #[.int .i64 0, .int .i64 0], .map none]) (by simp [results, Trym.results45, go_sem]) rfl ⟨⟨_, rfl⟩, (((Below.refl _ _).alloc (Nat.le_refl _) _).alloc (by simp) _).alloc (by simp; omega) _⟩

theorem resting_any {w : World} {sb bm br bo : Nat} {s : St} (h : SH w sb bm br bo s) (k : ByteArray) (hk : k.size ≤ maxLen) :
    Calls Trym.prog 45 #[.pointer (some ⟨sb, 0, none⟩), .string k] w fun e w' => (∃ o, e = .returned (.tuple #[.agg #[.int .i64 (s.rest k.data.toList).w, .int .i64 (s.rest k.data.toList).t], .map o])) ∧ Below w.heap.size w w' := by
  unfold St.rest
  cases e : s.re k.data.toList with
  | some r => exact resting_re h k hk r e
  | none =>
    cases e' : s.ol k.data.toList with
    | some r => exact resting_ol h k hk r e e'
    | none => exact resting_no h k hk e e'

set_option maxHeartbeats 400000 in
theorem load_by {w : World} {sb bm br bo : Nat} {s : St} (h : SH w sb bm br bo s) (k : ByteArray) (hk : k.size ≤ maxLen) (l : Ld) (hl : s.by_ k.data.toList = some l) :
    Calls Trym.prog 44 #[.pointer (some ⟨sb, 0, none⟩), .string k] w fun e w' => e = .returned (.agg #[.int .i64 l.u, .int .i64 l.w, .int .i64 l.g]) ∧ Below w.heap.size w w' := by
  have c3 := h.blk.c3
  have hb := h.blk.lt
  have hV := h.m
  have HV := look_ld hl (.agg #[.int .i64 0, .int .i64 0, .int .i64 0])
  have HO : (s.by_ k.data.toList).isSome = true := by rw [hl]; rfl
  clear h hl
  go_enter Trym.func44, Trym.ntmps44
  go_wp2_with (at_lookup; refine wpList_lookOk _ rfl _ _ 49 61 rfl Trym.underlying49 (zero61 _) rfl (hV.alloc _) k rfl hk _ true HV HO ?_; clear HV HO)
  exact bodyPost_ret (v := .agg #[.int .i64 l.u, .int .i64 l.w, .int .i64 l.g]) (by simp [results, Trym.results44, go_sem]) rfl ⟨rfl, ((Below.refl _ _).alloc (Nat.le_refl _) _).alloc (by simp) _⟩

set_option maxHeartbeats 400000 in
theorem load_no {w : World} {sb bm br bo : Nat} {s : St} (h : SH w sb bm br bo s) (k : ByteArray) (hk : k.size ≤ maxLen) (hl : s.by_ k.data.toList = none) (L : Int) (r : Rs) (hL : s.L = L) (hr : s.rest k.data.toList = r) :
    Calls Trym.prog 44 #[.pointer (some ⟨sb, 0, none⟩), .string k] w fun e w' => ∃ a b, e = .returned (.agg #[.int .i64 0, .int .i64 a, .int .i64 b]) ∧ ((L ≤ r.t ∧ a = r.w ∧ b = 0) ∨ (r.t < L ∧ a = 0 ∧ b = r.w)) ∧ Below w.heap.size w w' := by
  have c3 := h.blk.c3
  have hb := h.blk.lt
  have hV := h.m
  have HV := look_ld0 hl (.agg #[.int .i64 0, .int .i64 0, .int .i64 0])
  have HO : (s.by_ k.data.toList).isSome = false := by rw [hl]; rfl
  have hres := fun (w : World) (h : SH w sb bm br bo s) => resting_any h k hk
  rw [hr] at hres
  have Hres := Hid.out hres
  have HL : Hid (s.L = L) := hL
  clear hl hr hL
  have HRS : Hid (∀ (w : World) (h : SH w sb bm br bo s), Calls Trym.prog 45 #[.pointer (some ⟨sb, 0, none⟩), .string k] w fun e w' => (∃ o, e = .returned (.tuple #[.agg #[.int .i64 r.w, .int .i64 r.t], .map o])) ∧ Below w.heap.size w w') := hres
  clear hres Hres
  go_enter Trym.func44, Trym.ntmps44
  go_wp2_with (at_lookup; refine wpList_lookOk _ rfl _ _ 49 61 rfl Trym.underlying49 (zero61 _) rfl (hV.alloc _) k rfl hk _ false HV HO ?_; clear HV HO)
  have hb2 : ∀ o1 o2, Below w.heap.size w ((w.alloc o1).alloc o2) := fun o1 o2 => ((Below.refl _ _).alloc (Nat.le_refl _) _).alloc (by simp) _
  refine (HRS.out _ (h.later (hb2 _ _))).mono ?_
  rintro e w1 ⟨⟨o, rfl⟩, hbel⟩
  have c4 := ((h.later (hb2 _ _)).later hbel).blk.c4
  rw [HL.out] at c4
  have hz : w.heap.size + 1 < w1.heap.size := by have := hbel.size; simp at this; omega
  have hsb1 : sb < w1.heap.size := by omega
  have hz0 : w.heap.size < w1.heap.size := by omega
  have k0 : w1.cell? ⟨w.heap.size, 0, none⟩ = some (.int .i64 0) := (hbel.cell (by simp; omega)).trans (by simp)
  have k1 : w1.cell? ⟨w.heap.size, 1, none⟩ = some (.int .i64 0) := (hbel.cell (by simp; omega)).trans (by simp)
  have k2 : w1.cell? ⟨w.heap.size, 2, none⟩ = some (.int .i64 0) := (hbel.cell (by simp; omega)).trans (by simp)
  have f0 : ∀ i, w1.frozen? ⟨w.heap.size, i, none⟩ = false := fun i => (hbel.frozen (by simp; omega)).trans (by simp)
  have HB : Hid (Below w.heap.size w w1) := (hb2 _ _).trans (hbel.mono (by simp; omega))
  clear h hV hb2 hbel c3 HRS
  go_wp2
  go_quiet (fail)
  go_wp2
  · refine bodyPost_ret (v := .agg #[.int .i64 0, .int .i64 r.w, .int .i64 0]) (by simp [results, Trym.results44, go_sem, hz0, k0, k1, k2]) rfl ⟨_, _, rfl, .inl ⟨by assumption, rfl, rfl⟩, ?_⟩
    have hb3 := HB.out.alloc (by omega) (Obj.cells #[Value.int IntKind.i64 r.w, Value.int IntKind.i64 r.t] 69)
    exact (((below_drewN hb3 _).setCell (p := ⟨w.heap.size, 0, none⟩) (by simp) _).setCell (p := ⟨w.heap.size, 1, none⟩) (by simp) _).setCell (p := ⟨w.heap.size, 2, none⟩) (by simp) _
  · refine bodyPost_ret (v := .agg #[.int .i64 0, .int .i64 0, .int .i64 r.w]) (by simp [results, Trym.results44, go_sem, hz0, k0, k1, k2]) rfl ⟨_, _, rfl, .inr ⟨by assumption, rfl, rfl⟩, ?_⟩
    have hb3 := HB.out.alloc (by omega) (Obj.cells #[Value.int IntKind.i64 r.w, Value.int IntKind.i64 r.t] 69)
    exact (((below_drewN hb3 _).setCell (p := ⟨w.heap.size, 0, none⟩) (by simp) _).setCell (p := ⟨w.heap.size, 1, none⟩) (by simp) _).setCell (p := ⟨w.heap.size, 2, none⟩) (by simp) _

theorem load_any {w : World} {sb bm br bo : Nat} {s : St} (h : SH w sb bm br bo s) (k : ByteArray) (hk : k.size ≤ maxLen) (l : Ld) (hl : s.load k.data.toList = l) :
    Calls Trym.prog 44 #[.pointer (some ⟨sb, 0, none⟩), .string k] w fun e w' => e = .returned (.agg #[.int .i64 l.u, .int .i64 l.w, .int .i64 l.g]) ∧ Below w.heap.size w w' := by
  subst hl
  unfold St.load
  cases e : s.by_ k.data.toList with
  | some l => exact load_by h k hk l e
  | none =>
    refine (load_no h k hk e _ _ rfl rfl).mono ?_
    rintro e w' ⟨a, b, rfl, hab, hbel⟩
    refine ⟨?_, hbel⟩
    rcases hab with ⟨h1, rfl, rfl⟩ | ⟨h1, rfl, rfl⟩
    · simp only [if_pos h1]
    · simp only [if_neg (Int.not_le.2 h1)]

set_option maxHeartbeats 400000 in
theorem room_any {w : World} {sb bm br bo : Nat} {s : St} (h : SH w sb bm br bo s) (ok : s.Ok) (k : ByteArray) (hk : k.size ≤ maxLen) :
    Calls Trym.prog 39 #[.pointer (some ⟨sb, 0, none⟩), .string k] w fun e w' => e = .returned (.int .i64 (s.room k.data.toList)) ∧ Below w.heap.size w w' := by
  have hlo := ok.load k.data.toList
  have HR : Hid (∀ l, l = s.load k.data.toList → s.room k.data.toList = s.roomW l.u l.w) := by intro l hl; subst hl; rfl
  generalize hl : s.load k.data.toList = l at *
  have hl' := HR.out l rfl
  rw [hl']
  clear HR hl'
  have HC := load_any h k hk l hl
  clear hl
  obtain ⟨u0, u1, w0, w1, g0, g1⟩ := hlo
  go_enter Trym.func39, Trym.ntmps39
  go_wp2_with fail
  refine HC.mono ?_
  rintro e w1 ⟨rfl, hbel⟩
  clear HC
  go_wp2_with fail
  refine (roomWith_any ((h.later hbel).later ((Below.refl _ _).alloc (Nat.le_refl _) _)) ok l.u l.w u0 u1 w0 (by assumption)).mono ?_
  rintro e w2 ⟨rfl, n, rfl⟩
  go_wp2
  go_ret
  exact ⟨rfl, below_drewN (hbel.alloc hbel.size _) n⟩

end Go.Proofs.Qxb6001173aMods
