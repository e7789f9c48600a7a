/- Walks: ZZNewCircleFirst; the bound on the lengths; the plain law of the pick. -/
import Derived.Test.Qxb6003649aModsZz20
import Derived.Test.Qxb6003649aModsPure4
import Derived.Test.Qxb6003649aModsFirst
namespace Go.Proofs.Qxb6003649aMods
open Go.RowKit
set_option linter.unusedVariables false

theorem picked_first {n : Nat} {P s : Nat → Nat} {q best r : Nat} (h : Picked n P q best) (hs : Stable n P s) (hr : Fst n (fun k => P (s k)) q r) : (if r = n then 0 else r) = cnt n (fun x => decide (P x < P best)) := by
  obtain ⟨h1, h2⟩ := h.order hs
  obtain ⟨k, hk⟩ : ∃ k, k = cnt n (fun x => decide (P x < P best)) := ⟨_, rfl⟩
  rw [← hk] at h1 h2 ⊢
  rcases h with hb | ⟨hb, hn⟩
  · have hF : Fst n (fun k => P (s k)) q k := by
      refine ⟨by omega, fun i hi => ?_, fun _ => by rw [h2]; exact hb.ge⟩
      by_cases c : P (s i) < q
      · exact c
      · exfalso
        have hu := hs.up i k hi h1
        rw [h2] at hu
        have := hb.min (s i) (hs.lt i (by omega)) (by omega)
        unfold Lx at hu
        omega
    have : r = k := hr.eq hF
    subst this
    rw [if_neg (by omega)]
  · have hrn : r = n := by
      by_cases c : r < n
      · have := hr.at_ c
        have := hn (s r) (hs.lt r c)
        omega
      · have := hr.le; omega
    rw [if_pos hrn, hk]
    symm
    refine cnt_zero (fun x hx => ?_)
    have := hb.min x hx
    simp only [decide_eq_false_iff_not]
    omega

set_option maxHeartbeats 1000000 in
theorem bytes21_any (w : World) (a0 a1 : Option Addr) (n0 c0 n1 c1 : Nat) (q : Int) (s : Nat → ByteArray) (h0 : ArgS w a0 n0 c0 s) (h1 : n1 ≤ maxLen) :
    Calls Trym.prog 21 #[.slice a0 n0 c0, .slice a1 n1 c1, .int .u32 q] w fun e w' => ∃ b, e = .returned (.bool b) ∧ w' = w ∧ (b = true → ∀ k, k < n0 → (s k).size ≤ 1048576) := by
  have l0 := h0.len_le
  unfold maxLen at l0 h1
  go_enter Trym.func21, Trym.ntmps21
  by_cases t1 : 1048576 < n0
  · go_wp2_with fail
    go_ret
    exact ⟨_, rfl, rfl, fun h => by simp at h⟩
  go_wp2_with fail
  go_loopw [7, 8] (fun sz si wr => wr = w ∧ ∃ z k : Nat, k ≤ n0 ∧ z ≤ 1048576 ∧ sz = .int .i64 z ∧ si = .int .i64 k ∧ ∀ x, x < k → (s x).size ≤ 1048576) (fun _ si _ => n0 - (intOf si).toNat)
  case atStart => exact ⟨rfl, n0, 0, by omega, by omega, rfl, rfl, fun x hx => by omega⟩
  case round =>
    obtain ⟨rfl, z, k, hk, hz, rfl, rfl, hall⟩ := hrel
    have HA : Hid (∀ x, x < k → (s x).size ≤ 1048576) := hall
    clear hall
    by_cases hlt : k < n0
    · obtain ⟨b, off, rfl, hb, hc⟩ := h0.cells (by omega)
      have hck := hc k hlt
      have hsz := h0.lt k hlt
      unfold maxLen at hsz
      clear hc
      by_cases u1 : 1048576 < (s k).size
      · go_wp2_with fail
        go_ret
        exact ⟨_, rfl, rfl, fun h => by simp at h⟩
      by_cases u2 : 1048576 < z + (s k).size
      · go_wp2_with fail
        go_ret
        exact ⟨_, rfl, rfl, fun h => by simp at h⟩
      go_wp2_with fail
      go_roundw
      case rel => exact ⟨trivial, z + (s k).size, k + 1, by omega, by omega, by go_num, by go_num, fun x hx => by
        by_cases e : x = k
        · subst e; omega
        · exact HA.out x (by omega)⟩
      case measure => simp [intOf]; omega
    · go_wp2_with fail
      all_goals (go_ret; exact ⟨_, rfl, rfl, fun _ x hx => HA.out x (by omega)⟩)

theorem fst_exists (f : Nat → Nat) (q : Nat) : ∀ n, ∃ r, Fst n f q r := by
  intro n
  induction n with
  | zero => exact ⟨0, by omega, fun i hi => by omega, fun h => by omega⟩
  | succ n ih =>
    obtain ⟨r, h1, h2, h3⟩ := ih
    by_cases c : r < n
    · exact ⟨r, by omega, h2, fun _ => h3 c⟩
    · obtain rfl : r = n := by omega
      by_cases d : f r < q
      · exact ⟨r + 1, by omega, fun i hi => by
          by_cases e : i = r
          · subst e; exact d
          · exact h2 i (by omega), fun h => by omega⟩
      · exact ⟨r, by omega, h2, fun _ => by omega⟩

theorem first_at (w : World) (C b n c co q r : Nat) (oa : Option Addr) (a1 a4 a5 : Value) (f : Nat → Nat) (hC : C6 w C (.slice (some ⟨b, 0, none⟩) n c) a1 (.slice none 0 0) (.slice oa n co) a4 a5) (hn : n ≤ 1048576)
    (hT : TRow .u32 25 w b n f) (hf : ∀ i, i < n → f i < 4294967296) (hq : q < 4294967296) (hs : Asc n f) (hr : Fst n f q r) :
    Calls Trym.prog 23 #[.pointer (some ⟨C, 0, none⟩), .int .u32 (q : Int)] w fun e w' => e = .returned (.int .i64 ((if r = n then 0 else r : Nat) : Int)) ∧ w' = w := by
  refine (first_wide w C b 0 n c n co q (some ⟨b, 0, none⟩) oa a1 a4 a5 f hC hn (fun _ => rfl) (fun i hi => by rw [Nat.zero_add]; exact hT.cell hi) hf hq hs).mono ?_
  rintro e w' ⟨r', rfl, hF, rfl⟩
  rw [hF.eq hr]
  exact ⟨rfl, rfl⟩

/-- What ZZNewCircleFirst leaves. -/
def Made22 (w : World) (pb n m mc q : Nat) (na : Option Addr) (p : Nat → Nat) (e : Ending) (w' : World) : Prop :=
  ∃ (Wb OB r : Nat) (s : Nat → Nat), e = .returned (.tuple #[.int .i64 ((if r = n then 0 else r : Nat) : Int), .slice (some ⟨Wb, 0, none⟩) n n, .slice (some ⟨OB, 0, none⟩) n n]) ∧
    Stable n (fun x => p x / 4294967296) s ∧ Fst n (fun k => p (s k) / 4294967296) q r ∧
    TRow .u32 25 w' Wb n (fun k => p (s k) / 4294967296) ∧ TRow .u16 42 w' OB n (fun k => p (s k) % 65536) ∧ Ch (Lx0 n [pb]) w w'

theorem stable_asc {n : Nat} {P s : Nat → Nat} (h : Stable n P s) : Asc n (fun k => P (s k)) := fun i j hij hj => by
  by_cases e : i = j
  · subst e; exact Nat.le_refl _
  · have := h.up i j (by omega) hj
    unfold Lx at this
    simp only
    omega

set_option maxHeartbeats 1000000 in
theorem zz22_any (w : World) (pb n c1 m mc q : Nat) (pa na : Option Addr) (p : Nat → Nat) (hn : n ≤ 131072) (hm : m ≤ 65536) (hp : Own w pb 35 pa n (fun i => .int .u64 (p i : Int)))
    (hQ : ∀ x, x < n → p x < 18446744073709551616) (hO : ∀ x, x < n → p x % 4294967296 < m) (hq : q < 4294967296) :
    Calls Trym.prog 22 #[.slice na m mc, .slice pa n c1, .int .u32 (q : Int)] w fun e w' => Made22 w pb n m mc q na p e w' := by
  go_enter Trym.func22, Trym.ntmps22
  go_wp2_with fail
  refine (newc_any w pb n c1 m mc pa na p hn hm hp hQ hO).mono ?_
  rintro e w1 ⟨v, rfl, Wb, OB, s, t, rfl, h1, h2, h3, h4, h5, h6, h7⟩
  generalize DC (fun x => p x % 65536) m n = d
  obtain ⟨r, hF⟩ := fst_exists (fun k => p (s k) / 4294967296) q n
  have HF : Hid (Fst n (fun k => p (s k) / 4294967296) q r) := hF
  have hasc := stable_asc h1
  have hflt : ∀ i, i < n → p (s i) / 4294967296 < 4294967296 := fun i hi => by have := hQ _ (h1.lt i hi); omega
  have HR : Hid (Stable n (fun x => p x / 4294967296) s ∧ Ch (Lx0 n [pb]) w w1) := ⟨h1, h7⟩
  clear hF h2 h3 h6 h7 h1 hp hQ hO
  go_upto_region 2 with fail
  have hb : Below w1.heap.size w1 (w1.alloc (.cells #[.slice (some ⟨Wb, 0, none⟩) n n, .slice none 0 0, .slice none 0 0, .slice (some ⟨OB, 0, none⟩) n n, .slice na m mc, .int .i64 (d : Int)] 52)) := (Below.refl _ _).alloc (Nat.le_refl _) _
  have hC : C6 (w1.alloc (.cells #[.slice (some ⟨Wb, 0, none⟩) n n, .slice none 0 0, .slice none 0 0, .slice (some ⟨OB, 0, none⟩) n n, .slice na m mc, .int .i64 (d : Int)] 52)) w1.heap.size (.slice (some ⟨Wb, 0, none⟩) n n) (.slice none 0 0) (.slice none 0 0) (.slice (some ⟨OB, 0, none⟩) n n) (.slice na m mc) (.int .i64 (d : Int)) := Deep.blk_alloc_new _ _
  generalize w1.alloc (.cells #[.slice (some ⟨Wb, 0, none⟩) n n, .slice none 0 0, .slice none 0 0, .slice (some ⟨OB, 0, none⟩) n n, .slice na m mc, .int .i64 (d : Int)] 52) = w2 at *
  have hT2 := h4.of_block (hb.block _ h4.lt)
  have hO2 := h5.of_block (hb.block _ h5.lt)
  have HCH : Hid (Ch (Lx0 n [pb]) w w2 ∧ TRow .u16 42 w2 OB n (fun k => p (s k) % 65536) ∧ TRow .u32 25 w2 Wb n (fun k => p (s k) / 4294967296)) := ⟨HR.out.2.andThen (Ch.of_below hb []) (fun i hi => by simp at hi), hO2, hT2⟩
  generalize w1.heap.size = C at *
  obtain ⟨q0, q1, q2, q3⟩ := hC.cells
  have HCALL : Hid (∀ k, Calls Trym.prog 23 #[.pointer (some ⟨C, 0, none⟩), .int .u32 (q : Int)] (w2.drewN k) fun e w' => e = .returned (.int .i64 ((if r = n then 0 else r : Nat) : Int)) ∧ w' = w2.drewN k) :=
    fun k => first_at (w2.drewN k) C Wb n n n q r (some ⟨OB, 0, none⟩) _ _ _ (fun k => p (s k) / 4294967296) (hC.drewN k) (by omega) (hT2.drewN k) hflt hq hasc HF.out
  generalize hrr : (if r = n then 0 else r : Nat) = rr at *
  have HRR : Hid ((if r = n then 0 else r : Nat) = rr) := hrr
  clear hrr h4 h5 hb hT2 hO2 hC hasc hflt
  go_quiet ((go_at_call 23; exact Calls.quiet_of_same (HCALL.out _)))
  go_wp2_with fail
  refine bodyPost_ret (v := .tuple #[.int .i64 (rr : Int), .slice (some ⟨Wb, 0, none⟩) n n, .slice (some ⟨OB, 0, none⟩) n n]) (by simp [results, Trym.results22, go_sem]) rfl ⟨Wb, OB, r, s, by rw [HRR.out], HR.out.1, HF.out, HCH.out.2.2.drewN _, HCH.out.2.1.drewN _, HCH.out.1.drewN _⟩

end Go.Proofs.Qxb6003649aMods
