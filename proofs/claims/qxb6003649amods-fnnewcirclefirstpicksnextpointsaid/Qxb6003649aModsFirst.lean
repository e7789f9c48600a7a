/- Walks: size, first. -/
import Derived.Test.Qxb6003649aModsBin
namespace Go.Proofs.Qxb6003649aMods
open Go.RowKit
set_option linter.unusedVariables false

/-- A circle's block, all six fields. -/
def C6 (w : World) (C : Nat) (a0 a1 a2 a3 a4 a5 : Value) : Prop := w.heap[C]? = some (.cells #[a0, a1, a2, a3, a4, a5] 52 (0, 0))
theorem C6.cells {w : World} {C : Nat} {a0 a1 a2 a3 a4 a5 : Value} (h : C6 w C a0 a1 a2 a3 a4 a5) :
    w.cell? ⟨C, 0, none⟩ = some a0 ∧ w.cell? ⟨C, 1, none⟩ = some a1 ∧ w.cell? ⟨C, 2, none⟩ = some a2 ∧ w.cell? ⟨C, 3, none⟩ = some a3 := by
  unfold C6 at h
  refine ⟨?_, ?_, ?_, ?_⟩ <;> simp [World.cell?, h]
theorem C6.drewN {w : World} {C : Nat} {a0 a1 a2 a3 a4 a5 : Value} (h : C6 w C a0 a1 a2 a3 a4 a5) (m : Nat) : C6 (w.drewN m) C a0 a1 a2 a3 a4 a5 := h

theorem size28_any (w : World) (C : Nat) (n c : Nat) (a : Option Addr) (a0 a1 a2 a4 a5 : Value) (h : C6 w C a0 a1 a2 (.slice a n c) a4 a5) :
    Calls Trym.prog 28 #[.pointer (some ⟨C, 0, none⟩)] w fun e w' => e = .returned (.int .i64 (n : Int)) ∧ w' = w := by
  obtain ⟨c0, c1, c2, c3⟩ := h.cells
  clear h
  go_enter Trym.func28, Trym.ntmps28
  go_wp2
  go_ret
  exact ⟨rfl, rfl⟩

set_option maxHeartbeats 1000000 in
theorem first_wide (w : World) (C b off n c no co q : Nat) (wa oa : Option Addr) (a1 a4 a5 : Value) (f : Nat → Nat) (hC : C6 w C (.slice wa n c) a1 (.slice none 0 0) (.slice oa n co) a4 a5) (hn : n ≤ 1048576)
    (ha : 0 < n → wa = some ⟨b, off, none⟩) (hc : ∀ i, i < n → w.cell? ⟨b, off + i, none⟩ = some (.int .u32 (f i : Int))) (hf : ∀ i, i < n → f i < 4294967296) (hq : q < 4294967296) (hs : Asc n f) :
    Calls Trym.prog 23 #[.pointer (some ⟨C, 0, none⟩), .int .u32 (q : Int)] w fun e w' => ∃ r, e = .returned (.int .i64 ((if r = n then 0 else r : Nat) : Int)) ∧ Fst n f q r ∧ w' = w := by
  have hnil := fun w => Lib.run_eql_slice_nil (P := Trym.prog) w 22 25 none 0 0 0 0 Trym.underlying22
  obtain ⟨c0, c1, c2, c3⟩ := hC.cells
  go_enter Trym.func23, Trym.ntmps23
  go_wp2_with fail
  refine (after26_any w b off n c wa f q hn ha hc hf hq hs).mono ?_
  rintro e w' ⟨r, rfl, rfl, hF⟩
  have hr := hF.le
  have HF : Hid (Fst n f q r) := hF
  clear hF hc
  go_wp2_with fail
  refine (size28_any w' C n co oa _ _ _ _ _ hC).mono ?_
  rintro e w'' ⟨rfl, rfl⟩
  by_cases hrn : r = n
  · subst hrn
    go_wp2_with fail
    go_ret
    exact ⟨r, by simp, HF.out, rfl⟩
  · have hrz : ¬ (r : Int) = (n : Int) := by omega
    go_wp2_with fail
    go_ret
    exact ⟨r, by simp [hrn], HF.out, rfl⟩

/-- The narrow form. -/
structure NWF (L : Nat) (st nr : Nat → Nat) : Prop where
  zero : st 0 = 0
  last : st 65536 = L
  mono : ∀ h, h < 65536 → st h ≤ st (h + 1)
  asc : ∀ h, h < 65536 → ∀ i, st h < i → i < st (h + 1) → nr (i - 1) ≤ nr i

theorem NWF.le {L : Nat} {st nr : Nat → Nat} (h : NWF L st nr) : ∀ d a, a + d ≤ 65536 → st a ≤ st (a + d) := by
  intro d
  induction d with
  | zero => intro a _; exact Nat.le_refl _
  | succ d ih =>
    intro a ha
    have h1 := ih a (by omega)
    have h2 := h.mono (a + d) (by omega)
    exact Nat.le_trans h1 h2
theorem NWF.upto {L : Nat} {st nr : Nat → Nat} (h : NWF L st nr) {a b : Nat} (hab : a ≤ b) (hb : b ≤ 65536) : st a ≤ st b := by
  have := h.le (b - a) a (by omega)
  rw [show a + (b - a) = b by omega] at this
  exact this
theorem NWF.leL {L : Nat} {st nr : Nat → Nat} (h : NWF L st nr) {a : Nat} (ha : a ≤ 65536) : st a ≤ L := by
  have := h.upto ha (Nat.le_refl _)
  rw [h.last] at this
  exact this
theorem NWF.run {L : Nat} {st nr : Nat → Nat} (h : NWF L st nr) {i : Nat} (hi : i < L) : ∃ a, a < 65536 ∧ st a ≤ i ∧ i < st (a + 1) := by
  have aux : ∀ d, d ≤ 65536 → i < st d → ∃ a, a < d ∧ st a ≤ i ∧ i < st (a + 1) := by
    intro d
    induction d with
    | zero => intro _ h0; rw [h.zero] at h0; omega
    | succ d ih =>
      intro hd hlt
      by_cases c : i < st d
      · obtain ⟨a, h1, h2, h3⟩ := ih (by omega) c
        exact ⟨a, by omega, h2, h3⟩
      · exact ⟨d, by omega, by omega, hlt⟩
  obtain ⟨a, h1, h2, h3⟩ := aux 65536 (Nat.le_refl _) (by rw [h.last]; exact hi)
  exact ⟨a, h1, h2, h3⟩
theorem NWF.ascRun {L : Nat} {st nr : Nat → Nat} (h : NWF L st nr) {a : Nat} (ha : a < 65536) : Asc (st (a + 1) - st a) (fun i => nr (st a + i)) := by
  intro i j hij hj
  have aux : ∀ d, i + d < st (a + 1) - st a → nr (st a + i) ≤ nr (st a + (i + d)) := by
    intro d
    induction d with
    | zero => intro _; exact Nat.le_refl _
    | succ d ih =>
      intro hd
      have h1 := ih (by omega)
      have h2 := h.asc a ha (st a + (i + (d + 1))) (by omega) (by omega)
      rw [show st a + (i + (d + 1)) - 1 = st a + (i + d) by omega] at h2
      exact Nat.le_trans h1 h2
  have := aux (j - i) (by omega)
  rw [show i + (j - i) = j by omega] at this
  exact this

/-- The whole positions of the narrow form. -/
def Whole (st nr g : Nat → Nat) : Prop := ∀ h, h < 65536 → ∀ i, st h ≤ i → i < st (h + 1) → g i = h * 65536 + nr i

theorem whole_fst {L : Nat} {st nr g : Nat → Nat} (h : NWF L st nr) (hg : Whole st nr g) (hnr : ∀ i, i < L → nr i < 65536) {q r : Nat} (hq : q < 4294967296)
    (hr : Fst (st (q / 65536 + 1) - st (q / 65536)) (fun i => nr (st (q / 65536) + i)) (q % 65536) r) : Fst L g q (st (q / 65536) + r) := by
  obtain ⟨a, ha⟩ : ∃ a, a = q / 65536 := ⟨_, rfl⟩
  rw [← ha] at hr ⊢
  have ha2 : a < 65536 := by omega
  have hm := h.mono a ha2
  have hL := h.leL (a := a + 1) (by omega)
  obtain ⟨h1, h2, h3⟩ := hr
  refine ⟨by omega, fun i hi => ?_, fun hi => ?_⟩
  · by_cases c : i < st a
    · obtain ⟨b, b1, b2, b3⟩ := h.run (i := i) (by omega)
      have hba : b < a := by
        by_cases e : b < a
        · exact e
        · have := h.upto (a := a) (b := b) (by omega) (by omega); omega
      have := hg b b1 i b2 b3
      have := hnr i (by omega)
      omega
    · have e1 := h2 (i - st a) (by omega)
      rw [show st a + (i - st a) = i by omega] at e1
      have := hg a ha2 i (by omega) (by omega)
      omega
  · by_cases c : st a + r < st (a + 1)
    · have e1 := h3 (by omega)
      have := hg a ha2 (st a + r) (by omega) c
      omega
    · obtain ⟨b, b1, b2, b3⟩ := h.run hi
      have hba : a + 1 ≤ b := by
        by_cases e : a + 1 ≤ b
        · exact e
        · have := h.upto (a := b + 1) (b := a + 1) (by omega) (by omega); omega
      have := hg b b1 _ b2 b3
      omega

theorem u16w (x : Nat) : IntKind.u16.wrap (x : Int) = ((x % 65536 : Nat) : Int) := by
  simp [IntKind.wrap, IntKind.signed, IntKind.bits]

set_option maxHeartbeats 1000000 in
theorem first_narrow (w : World) (C SB NB L M c1 c2 co q : Nat) (hM : 65536 < M) (hM2 : M ≤ 1048576) (na oa : Option Addr) (a0 a4 a5 : Value) (st nr g : Nat → Nat) (hC : C6 w C a0 (.slice na L c1) (.slice (some ⟨SB, 0, none⟩) M c2) (.slice oa L co) a4 a5) (hL : L ≤ 1048576)
    (ha : 0 < L → na = some ⟨NB, 0, none⟩) (hLc : L ≤ c1) (hS : TRow .u32 25 w SB M st) (hN : 0 < L → TRow .u16 42 w NB L nr) (hnr : ∀ i, i < L → nr i < 65536) (hq : q < 4294967296) (hw : NWF L st nr) (hg : Whole st nr g) :
    Calls Trym.prog 23 #[.pointer (some ⟨C, 0, none⟩), .int .u32 (q : Int)] w fun e w' => ∃ r, e = .returned (.int .i64 ((if r = L then 0 else r : Nat) : Int)) ∧ Fst L g q r ∧ ∃ m, w' = w.drewN m := by
  have hnil := fun w => Lib.run_eql_slice_nil (P := Trym.prog) w 22 25 (some ⟨SB, 0, none⟩) M c2 0 0 Trym.underlying22
  obtain ⟨c0', c1', c2', c3'⟩ := hC.cells
  obtain ⟨a, hav⟩ : ∃ a, a = q / 65536 := ⟨_, rfl⟩
  have ha2 : a < 65536 := by omega
  have s0 := hS.cell (i := a) (by omega)
  have s1 := hS.cell (i := a + 1) (by omega)
  have hm := hw.mono a ha2
  have hl1 := hw.leL (a := a + 1) (by omega)
  have hdiv : (q : Int) / 65536 = (a : Int) := by omega
  have HAV : Hid (a = q / 65536) := hav
  have HW : Hid (NWF L st nr ∧ Whole st nr g) := ⟨hw, hg⟩
  clear hav hw hg
  go_enter Trym.func23, Trym.ntmps23
  go_wp2_with fail
  go_quiet (fail)
  go_wp2_with fail
  case inr =>
    rw [u16w]
    refine (after27_any (w.drewN nq) NB (st a) (st (a + 1) - st a) (c1 - st a) _ (fun i => nr (st a + i)) (q % 65536) (by omega) (fun h0 => ?_) (fun i hi => ?_) (fun i hi => hnr _ (by omega)) (by omega) (HW.out.1.ascRun ha2)).mono ?_
    · rw [ha (by omega)]
      show some ((⟨NB, 0, none⟩ : Addr).add (st a)) = _
      unfold Addr.add
      split <;> simp_all
    · exact (hN (by omega)).cell (by omega)
    · rintro e w' ⟨r, rfl, rfl, hF⟩
      have hr := hF.le
      have HF : Hid (Fst L g q (st a + r)) := by
        rw [HAV.out] at hF ⊢
        exact whole_fst HW.out.1 HW.out.2 hnr hq hF
      clear hF hN hS s0 s1
      go_wp2_with fail
      refine (size28_any _ C L co oa _ _ _ _ _ (hC.drewN nq)).mono ?_
      rintro e w'' ⟨rfl, rfl⟩
      by_cases hrn : st a + r = L
      · have hrz : (st a : Int) + (r : Int) = (L : Int) := by omega
        go_wp2_with fail
        go_ret
        exact ⟨st a + r, by simp [hrn], HF.out, nq, rfl⟩
      · have hrz : ¬ (st a : Int) + (r : Int) = (L : Int) := by omega
        go_wp2_with fail
        go_ret
        exact ⟨st a + r, by rw [if_neg hrn]; go_num, HF.out, nq, rfl⟩
  case inl =>
    rw [u16w]
    refine (after27_any (w.drewN nq) NB (st a) (st (a + 1) - st a) 0 na (fun i => nr (st a + i)) (q % 65536) (by omega) (fun h0 => by omega) (fun i hi => by omega) (fun i hi => hnr _ (by omega)) (by omega) (HW.out.1.ascRun ha2)).mono ?_
    rintro e w' ⟨r, rfl, rfl, hF⟩
    have hr := hF.le
    have HF : Hid (Fst L g q (st a + r)) := by
      rw [HAV.out] at hF ⊢
      exact whole_fst HW.out.1 HW.out.2 hnr hq hF
    clear hF hN hS s0 s1
    go_wp2_with fail
    refine (size28_any _ C L co oa _ _ _ _ _ (hC.drewN nq)).mono ?_
    rintro e w'' ⟨rfl, rfl⟩
    by_cases hrn : st a + r = L
    · have hrz : (st a : Int) + (r : Int) = (L : Int) := by omega
      go_wp2_with fail
      go_ret
      exact ⟨st a + r, by simp [hrn], HF.out, nq, rfl⟩
    · omega

end Go.Proofs.Qxb6003649aMods
