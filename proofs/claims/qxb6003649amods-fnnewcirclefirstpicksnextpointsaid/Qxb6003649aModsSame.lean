/- Walk: zzSameMultiset64 says true of a rearrangement. -/
import Derived.Test.Qxb6003649aModsOrder
namespace Go.Proofs.Qxb6003649aMods
open Go.RowKit
set_option linter.unusedVariables false

theorem Own.later {w w' : World} {B b : Nat} {t : TypeId} {a : Option Addr} {n : Nat} {f : Nat → Value} (h : Own w b t a n f) (hb : Below B w w') (hB : 0 < n → b < B) : Own w' b t a n f :=
  fun h0 => ⟨(h h0).1, (h h0).2.of_block (hb.block b (hB h0))⟩
theorem Own.lt {w : World} {b : Nat} {t : TypeId} {a : Option Addr} {n : Nat} {f : Nat → Value} (h : Own w b t a n f) : 0 < n → b < w.heap.size := fun h0 => (h h0).2.lt
theorem Own.congr {w : World} {b : Nat} {t : TypeId} {a : Option Addr} {n : Nat} {f g : Nat → Value} (h : Own w b t a n f) (e : ∀ i, i < n → f i = g i) : Own w b t a n g :=
  fun h0 => ⟨(h h0).1, (h h0).2.congr e⟩
theorem Own.after {w w' : World} {b : Nat} {t : TypeId} {a : Option Addr} {n : Nat} {f : Nat → Value} (h : Own w b t a n f) (hb : Below w.heap.size w w') : Own w' b t a n f := h.later hb h.lt

set_option maxHeartbeats 1000000 in
theorem same_any (w : World) (ab bb n ca cb : Nat) (aa ba : Option Addr) (v τ : Nat → Nat) (hn : n ≤ 1048576) (ha : Own w ab 35 aa n (fun i => .int .u64 (v i : Int))) (hb : Own w bb 35 ba n (fun i => .int .u64 (v (τ i) : Int)))
    (ht : ∀ i, i < n → τ i < n) (it : ∀ i j, i < n → j < n → τ i = τ j → i = j) :
    Calls Trym.prog 18 #[.slice aa n ca, .slice ba n cb] w fun e w' => e = .returned (.bool true) ∧ Below w.heap.size w w' := by
  go_enter Trym.func18, Trym.ntmps18
  go_wp2_with fail
  refine (order_any w ab n ca aa v hn ha).mono ?_
  rintro e w1 ⟨x, oa, rfl, hx, hra, hsa, hb1⟩
  have ha1 := ha.after hb1
  have hb1' := hb.after hb1
  go_wp2_with fail
  refine (order_any w1 bb n cb ba (fun i => v (τ i)) hn hb1').mono ?_
  rintro e w2 ⟨y, ob, rfl, hy, hrb, hsb, hb2⟩
  have ha2 := ha1.after hb2
  have hb2' := hb1'.after hb2
  have hra2 : IRow w2 x n oa := hra.of_block (hb2.block x (World.rowIs.lt hra))
  have heq : ∀ k, k < n → v (oa k) = v (τ (ob k)) := fun k hk => sorted_eq ht it hsa hsb hk
  have HB : Hid (Below w.heap.size w w2) := hb1.trans (hb2.mono hb1.size)
  clear ha hb ha1 hb1' hb1 hb2 hra
  go_wp2_with fail
  go_loopw [7] (fun i wr => ∃ k : Nat, k ≤ n ∧ i = .int .i64 k ∧ ∃ m, wr = w2.drewN m) (fun i _ => n - (intOf i).toNat)
  case atStart => exact ⟨0, Nat.zero_le _, rfl, 0, rfl⟩
  case round =>
    obtain ⟨k, hk, rfl, m, rfl⟩ := hrel
    by_cases hlt : k < n
    · obtain ⟨rfl, ra⟩ := ha2 (by omega)
      obtain ⟨rfl, rb⟩ := hb2' (by omega)
      have c1 := hra2.cell hlt
      have c2 := hrb.cell hlt
      have l1 := hsa.lt k hlt
      have l2 := hsb.lt k hlt
      have c3 := ra.cell l1
      have c4 := rb.cell l2
      rw [← heq k hlt] at c4
      clear heq
      generalize v (oa k) = vv at *
      generalize oa k = o1 at *
      generalize ob k = o2 at *
      have HC : Hid (IRow w2 x n oa ∧ IRow w2 y n ob) := ⟨hra2, hrb⟩
      go_wp2_with fail
      go_quiet (fail)
      go_wp2_with fail
      go_roundw
      case rel => exact ⟨k + 1, by omega, by go_num, _, rfl⟩
      case measure => simp [intOf]; omega
    · go_wp2_with fail
      go_ret
      exact ⟨rfl, below_drewN HB.out m⟩

end Go.Proofs.Qxb6003649aMods
