/- Walks: the binary searches. -/
import Derived.Test.Qxb6003649aModsDeals
namespace Go.Proofs.Qxb6003649aMods
open Go.RowKit
set_option linter.unusedVariables false

theorem i64small (a : Nat) (ha : a ≤ 1048576) : IntKind.i64.wrap (a : Int) = (a : Int) := by simp [IntKind.wrap, IntKind.signed, IntKind.bits]; omega
theorem and_all (a : Nat) (ha : a ≤ 1048576) : bits .and .i64 (a : Int) (-1) = (a : Int) := by
  show IntKind.i64.wrap ((BitVec.ofInt 64 (a : Int) &&& BitVec.ofInt 64 (-1)).toNat : Int) = _
  have e : BitVec.ofInt 64 (-1) = BitVec.allOnes 64 := by decide
  rw [e, BitVec.and_allOnes, ofInt_u64 a (by omega)]
  exact i64small a ha
theorem and_none (a : Nat) : bits .and .i64 (a : Int) 0 = 0 := by
  show IntKind.i64.wrap ((BitVec.ofInt 64 (a : Int) &&& BitVec.ofInt 64 0).toNat : Int) = _
  have e : BitVec.ofInt 64 0 = 0#64 := by decide
  rw [e, BitVec.and_zero]
  decide

/-- r is the first place at which f is at or above q, or n where there is none. -/
structure Fst (n : Nat) (f : Nat → Nat) (q r : Nat) : Prop where
  le : r ≤ n
  below : ∀ i, i < r → f i < q
  at_ : r < n → q ≤ f r

def Asc (n : Nat) (f : Nat → Nat) : Prop := ∀ i j, i ≤ j → j < n → f i ≤ f j

/-- What is known while the search goes. -/
structure Bin (n : Nat) (f : Nat → Nat) (q base m : Nat) : Prop where
  le : base + m ≤ n
  pos : 0 < n → 0 < m
  below : ∀ i, i < base → f i < q
  at_ : base + m < n → q ≤ f (base + m)

theorem Bin.start {n : Nat} {f : Nat → Nat} {q : Nat} : Bin n f q 0 n := ⟨by omega, fun h => h, fun i hi => by omega, fun h => by omega⟩
theorem Bin.right {n : Nat} {f : Nat → Nat} {q base m : Nat} (hs : Asc n f) (h : Bin n f q base m) (hm : 1 < m) (hlt : f (base + m / 2 - 1) < q) : Bin n f q (base + m / 2) (m - m / 2) := by
  obtain ⟨h1, h2, h3, h4⟩ := h
  refine ⟨by omega, by omega, fun i hi => ?_, fun hi => ?_⟩
  · have := hs i (base + m / 2 - 1) (by omega) (by omega)
    omega
  · rw [show base + m / 2 + (m - m / 2) = base + m by omega] at hi ⊢
    exact h4 hi
theorem Bin.left {n : Nat} {f : Nat → Nat} {q base m : Nat} (hs : Asc n f) (h : Bin n f q base m) (hm : 1 < m) (hlt : q ≤ f (base + m / 2 - 1)) : Bin n f q base (m - m / 2) := by
  obtain ⟨h1, h2, h3, h4⟩ := h
  refine ⟨by omega, by omega, h3, fun hi => ?_⟩
  have := hs (base + m / 2 - 1) (base + (m - m / 2)) (by omega) (by omega)
  omega
theorem Bin.one {n : Nat} {f : Nat → Nat} {q base : Nat} (h : Bin n f q base 1) : (f base < q → Fst n f q (base + 1)) ∧ (q ≤ f base → Fst n f q base) := by
  obtain ⟨h1, h2, h3, h4⟩ := h
  refine ⟨fun hl => ⟨h1, fun i hi => ?_, h4⟩, fun hl => ⟨by omega, h3, fun _ => hl⟩⟩
  by_cases e : i = base
  · subst e; exact hl
  · exact h3 i (by omega)
theorem Bin.zero {n : Nat} {f : Nat → Nat} {q base : Nat} (h : Bin n f q base 0) : Fst n f q base := by
  obtain ⟨h1, h2, h3, h4⟩ := h
  exact ⟨by omega, h3, fun hi => by omega⟩

theorem Fst.eq {n : Nat} {f : Nat → Nat} {q r r' : Nat} (h : Fst n f q r) (h' : Fst n f q r') : r = r' := by
  by_cases h1 : r < r'
  · have := h'.below r h1
    have := h.at_ (by have := h'.le; omega)
    omega
  · by_cases h2 : r' < r
    · have := h.below r' h2
      have := h'.at_ (by have := h.le; omega)
      omega
    · omega

set_option maxHeartbeats 1000000 in
theorem after26_any (w : World) (b off n cap : Nat) (a : Option Addr) (f : Nat → Nat) (q : Nat) (hn : n ≤ 1048576) (ha : 0 < n → a = some ⟨b, off, none⟩) (hc : ∀ i, i < n → w.cell? ⟨b, off + i, none⟩ = some (.int .u32 (f i : Int))) (hf : ∀ i, i < n → f i < 4294967296) (hq : q < 4294967296) (hs : Asc n f) :
    Calls Trym.prog 26 #[.slice a n cap, .int .u32 (q : Int)] w fun e w' => ∃ r : Nat, e = .returned (.int .i64 (r : Int)) ∧ w' = w ∧ Fst n f q r := by
  go_enter Trym.func26, Trym.ntmps26
  go_wp2_with fail
  go_loopw [5, 6] (fun sb sm wr => wr = w ∧ ∃ base m : Nat, sb = .int .i64 base ∧ sm = .int .i64 m ∧ Bin n f q base m) (fun _ sm _ => (intOf sm).toNat)
  case atStart => exact ⟨rfl, 0, n, rfl, rfl, Bin.start⟩
  case round =>
    obtain ⟨rfl, base, m, rfl, rfl, hB⟩ := hrel
    have hle := hB.le
    by_cases hm : 1 < m
    · obtain rfl := ha (by omega)
      have hck := hc (base + m / 2 - 1) (by omega)
      have hfk := hf (base + m / 2 - 1) (by omega)
      have HB : Hid (Bin n f q base m) := hB
      have HC : Hid (∀ i, i < n → wr.cell? ⟨b, off + i, none⟩ = some (.int .u32 (f i : Int))) := hc
      clear hB hc
      by_cases hlt : f (base + m / 2 - 1) < q
      · have HR : Hid (Bin n f q (base + m / 2) (m - m / 2)) := HB.out.right hs hm hlt
        generalize f (base + m / 2 - 1) = v at *
        have hd1 : ((v : Int) - (q : Int)) / 9223372036854775808 = -1 := by omega
        have hd2 := and_all (m / 2) (by omega)
        simp only [Int.natCast_ediv, Int.cast_ofNat_Int] at hd2
        go_wp2_with fail
        go_roundw
        case rel => exact ⟨trivial, base + m / 2, m - m / 2, by go_num, by go_num, HR.out⟩
        case measure => simp [intOf]; omega
      · have HR : Hid (Bin n f q base (m - m / 2)) := HB.out.left hs hm (by omega)
        generalize f (base + m / 2 - 1) = v at *
        have hd1 : ((v : Int) - (q : Int)) / 9223372036854775808 = 0 := by omega
        have hd2 := and_none (m / 2)
        simp only [Int.natCast_ediv, Int.cast_ofNat_Int] at hd2
        go_wp2_with fail
        go_roundw
        case rel => exact ⟨trivial, base, m - m / 2, by go_num, by go_num, HR.out⟩
        case measure => simp [intOf]; omega
    · by_cases hm1 : m = 1
      · subst hm1
        obtain rfl := ha (by omega)
        have hck := hc base (by omega)
        have HR : Hid ((f base < q → Fst n f q (base + 1)) ∧ (q ≤ f base → Fst n f q base)) := hB.one
        clear hB hc
        by_cases hlt : f base < q
        · have HR2 : Hid (Fst n f q (base + 1)) := HR.out.1 hlt
          generalize f base = v at *
          go_wp2_with fail
          go_ret
          exact ⟨base + 1, by go_num, rfl, HR2.out⟩
        · have HR2 : Hid (Fst n f q base) := HR.out.2 (by omega)
          generalize f base = v at *
          go_wp2_with fail
          go_ret
          exact ⟨base, rfl, rfl, HR2.out⟩
      · obtain rfl : m = 0 := by omega
        have HR2 : Hid (Fst n f q base) := hB.zero
        clear hB hc
        go_wp2_with fail
        go_ret
        exact ⟨base, rfl, rfl, HR2.out⟩

set_option maxHeartbeats 1000000 in
theorem after27_any (w : World) (b off n cap : Nat) (a : Option Addr) (f : Nat → Nat) (q : Nat) (hn : n ≤ 1048576) (ha : 0 < n → a = some ⟨b, off, none⟩) (hc : ∀ i, i < n → w.cell? ⟨b, off + i, none⟩ = some (.int .u16 (f i : Int))) (hf : ∀ i, i < n → f i < 65536) (hq : q < 65536) (hs : Asc n f) :
    Calls Trym.prog 27 #[.slice a n cap, .int .u16 (q : Int)] w fun e w' => ∃ r : Nat, e = .returned (.int .i64 (r : Int)) ∧ w' = w ∧ Fst n f q r := by
  go_enter Trym.func27, Trym.ntmps27
  go_wp2_with fail
  go_loopw [5, 6] (fun sb sm wr => wr = w ∧ ∃ base m : Nat, sb = .int .i64 base ∧ sm = .int .i64 m ∧ Bin n f q base m) (fun _ sm _ => (intOf sm).toNat)
  case atStart => exact ⟨rfl, 0, n, rfl, rfl, Bin.start⟩
  case round =>
    obtain ⟨rfl, base, m, rfl, rfl, hB⟩ := hrel
    have hle := hB.le
    by_cases hm : 1 < m
    · obtain rfl := ha (by omega)
      have hck := hc (base + m / 2 - 1) (by omega)
      have hfk := hf (base + m / 2 - 1) (by omega)
      have HB : Hid (Bin n f q base m) := hB
      have HC : Hid (∀ i, i < n → wr.cell? ⟨b, off + i, none⟩ = some (.int .u16 (f i : Int))) := hc
      clear hB hc
      by_cases hlt : f (base + m / 2 - 1) < q
      · have HR : Hid (Bin n f q (base + m / 2) (m - m / 2)) := HB.out.right hs hm hlt
        generalize f (base + m / 2 - 1) = v at *
        have hd1 : ((v : Int) - (q : Int)) / 9223372036854775808 = -1 := by omega
        have hd2 := and_all (m / 2) (by omega)
        simp only [Int.natCast_ediv, Int.cast_ofNat_Int] at hd2
        go_wp2_with fail
        go_roundw
        case rel => exact ⟨trivial, base + m / 2, m - m / 2, by go_num, by go_num, HR.out⟩
        case measure => simp [intOf]; omega
      · have HR : Hid (Bin n f q base (m - m / 2)) := HB.out.left hs hm (by omega)
        generalize f (base + m / 2 - 1) = v at *
        have hd1 : ((v : Int) - (q : Int)) / 9223372036854775808 = 0 := by omega
        have hd2 := and_none (m / 2)
        simp only [Int.natCast_ediv, Int.cast_ofNat_Int] at hd2
        go_wp2_with fail
        go_roundw
        case rel => exact ⟨trivial, base, m - m / 2, by go_num, by go_num, HR.out⟩
        case measure => simp [intOf]; omega
    · by_cases hm1 : m = 1
      · subst hm1
        obtain rfl := ha (by omega)
        have hck := hc base (by omega)
        have HR : Hid ((f base < q → Fst n f q (base + 1)) ∧ (q ≤ f base → Fst n f q base)) := hB.one
        clear hB hc
        by_cases hlt : f base < q
        · have HR2 : Hid (Fst n f q (base + 1)) := HR.out.1 hlt
          generalize f base = v at *
          go_wp2_with fail
          go_ret
          exact ⟨base + 1, by go_num, rfl, HR2.out⟩
        · have HR2 : Hid (Fst n f q base) := HR.out.2 (by omega)
          generalize f base = v at *
          go_wp2_with fail
          go_ret
          exact ⟨base, rfl, rfl, HR2.out⟩
      · obtain rfl : m = 0 := by omega
        have HR2 : Hid (Fst n f q base) := hB.zero
        clear hB hc
        go_wp2_with fail
        go_ret
        exact ⟨base, rfl, rfl, HR2.out⟩

end Go.Proofs.Qxb6003649aMods
