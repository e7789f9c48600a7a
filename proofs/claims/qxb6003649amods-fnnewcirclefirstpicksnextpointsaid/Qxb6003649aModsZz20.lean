/- Walks: ZZNewCircle; the bound on the lengths; slices of strings that came in. -/
import Derived.Test.Qxb6003649aModsNewC
import Derived.Test.Qxb6003649aModsArgs
namespace Go.Proofs.Qxb6003649aMods
open Go.RowKit
set_option linter.unusedVariables false

/-- A slice of strings that came in. -/
structure ArgS (w : World) (a : Option Addr) (len cap : Nat) (s : Nat → ByteArray) : Prop where
  len_le : len ≤ maxLen
  nil : a = none → len = 0 ∧ cap = 0
  lt : ∀ i, i < len → (s i).size ≤ maxLen
  cells : 0 < len → ∃ b off, a = some ⟨b, off, none⟩ ∧ b < w.heap.size ∧ ∀ i, i < len → w.cell? ⟨b, off + i, none⟩ = some (.string (s i))

theorem ArgS.rd {w : World} {a : Option Addr} {len cap : Nat} {s : Nat → ByteArray} (h : ArgS w a len cap s) : Rd w a len (fun i => .string (s i)) := by
  intro h0
  obtain ⟨b, off, rfl, _, hc⟩ := h.cells h0
  refine ⟨_, rfl, fun i hi => ?_⟩
  have hadd : (⟨b, off, none⟩ : Addr).add i = ⟨b, off + i, none⟩ := by unfold Addr.add; split <;> simp_all
  rw [hadd]
  exact hc i hi

set_option maxHeartbeats 1000000 in
theorem bytes19_any (w : World) (a0 a1 : Option Addr) (n0 c0 n1 c1 : Nat) (s : Nat → ByteArray) (h0 : ArgS w a0 n0 c0 s) (h1 : n1 ≤ maxLen) :
    Calls Trym.prog 19 #[.slice a0 n0 c0, .slice a1 n1 c1] w fun e w' => ∃ b, e = .returned (.bool b) ∧ w' = w ∧ (b = true → ∀ k, k < n0 → (s k).size ≤ 1048576) := by
  have l0 := h0.len_le
  unfold maxLen at l0 h1
  go_enter Trym.func19, Trym.ntmps19
  by_cases t1 : 1048576 < n0
  · go_wp2_with fail
    go_ret
    exact ⟨_, rfl, rfl, fun h => by simp at h⟩
  go_wp2_with fail
  go_loopw [5, 6] (fun sz si wr => wr = w ∧ ∃ z k : Nat, k ≤ n0 ∧ z ≤ 1048576 ∧ sz = .int .i64 z ∧ si = .int .i64 k ∧ ∀ x, x < k → (s x).size ≤ 1048576) (fun _ si _ => n0 - (intOf si).toNat)
  case atStart => exact ⟨rfl, n0, 0, by omega, by omega, rfl, rfl, fun x hx => by omega⟩
  case round =>
    obtain ⟨rfl, z, k, hk, hz, rfl, rfl, hall⟩ := hrel
    have HA : Hid (∀ x, x < k → (s x).size ≤ 1048576) := hall
    clear hall
    by_cases hlt : k < n0
    · obtain ⟨b, off, rfl, hb, hc⟩ := h0.cells (by omega)
      have hck := hc k hlt
      have hsz := h0.lt k hlt
      unfold maxLen at hsz
      clear hc
      by_cases u1 : 1048576 < (s k).size
      · go_wp2_with fail
        go_ret
        exact ⟨_, rfl, rfl, fun h => by simp at h⟩
      by_cases u2 : 1048576 < z + (s k).size
      · go_wp2_with fail
        go_ret
        exact ⟨_, rfl, rfl, fun h => by simp at h⟩
      go_wp2_with fail
      go_roundw
      case rel => exact ⟨trivial, z + (s k).size, k + 1, by omega, by omega, by go_num, by go_num, fun x hx => by
        by_cases e : x = k
        · subst e; omega
        · exact HA.out x (by omega)⟩
      case measure => simp [intOf]; omega
    · go_wp2_with fail
      all_goals (go_ret; exact ⟨_, rfl, rfl, fun _ x hx => HA.out x (by omega)⟩)

/-- What ZZNewCircle leaves. -/
def Made20 (w : World) (pb n m mc : Nat) (na : Option Addr) (p : Nat → Nat) (e : Ending) (w' : World) : Prop :=
  ∃ (Wb OB : Nat) (s t : Nat → Nat), e = .returned (.tuple #[.slice (some ⟨Wb, 0, none⟩) n n, .slice none 0 0, .slice none 0 0, .slice (some ⟨OB, 0, none⟩) n n, .slice na m mc, .int .i64 (DC (fun x => p x % 65536) m n : Int)]) ∧
    Stable n (fun x => p x / 4294967296) s ∧ (∀ i, i < n → t i < n) ∧ (∀ i j, i < n → j < n → t i = t j → i = j) ∧
    TRow .u32 25 w' Wb n (fun k => p (s k) / 4294967296) ∧ TRow .u16 42 w' OB n (fun k => p (s k) % 65536) ∧
    (0 < n → TRow .u64 35 w' pb n (fun k => p (t k))) ∧ Ch (Lx0 n [pb]) w w'

set_option maxHeartbeats 1000000 in
theorem zz20_any (w : World) (pb n c1 m mc : Nat) (pa na : Option Addr) (p : Nat → Nat) (hn : n ≤ 131072) (hm : m ≤ 65536) (hp : Own w pb 35 pa n (fun i => .int .u64 (p i : Int)))
    (hQ : ∀ x, x < n → p x < 18446744073709551616) (hO : ∀ x, x < n → p x % 4294967296 < m) :
    Calls Trym.prog 20 #[.slice na m mc, .slice pa n c1] w fun e w' => Made20 w pb n m mc na p e w' := by
  go_enter Trym.func20, Trym.ntmps20
  go_wp2_with fail
  refine (newc_any w pb n c1 m mc pa na p hn hm hp hQ hO).mono ?_
  rintro e w1 ⟨v, rfl, Wb, OB, s, t, rfl, h1, h2, h3, h4, h5, h6, h7⟩
  obtain ⟨d, hd⟩ : ∃ d, d = DC (fun x => p x % 65536) m n := ⟨_, rfl⟩
  rw [← hd]
  have HD : Hid (d = DC (fun x => p x % 65536) m n) := hd
  have HR : Hid (Stable n (fun x => p x / 4294967296) s ∧ (∀ i, i < n → t i < n) ∧ (∀ i j, i < n → j < n → t i = t j → i = j) ∧
    TRow .u32 25 w1 Wb n (fun k => p (s k) / 4294967296) ∧ TRow .u16 42 w1 OB n (fun k => p (s k) % 65536) ∧ (0 < n → TRow .u64 35 w1 pb n (fun k => p (t k))) ∧ Ch (Lx0 n [pb]) w w1) := ⟨h1, h2, h3, h4, h5, h6, h7⟩
  clear hd h1 h2 h3 h4 h5 h6 h7
  go_wp2_with fail
  go_quiet (fail)
  go_wp2_with fail
  obtain ⟨g1, g2, g3, g4, g5, g6, g7⟩ := HR.out
  have hb : Below w1.heap.size w1 (w1.alloc (.cells #[.slice (some ⟨Wb, 0, none⟩) n n, .slice none 0 0, .slice none 0 0, .slice (some ⟨OB, 0, none⟩) n n, .slice na m mc, .int .i64 (d : Int)] 52)) := (Below.refl _ _).alloc (Nat.le_refl _) _
  generalize w1.alloc (.cells #[.slice (some ⟨Wb, 0, none⟩) n n, .slice none 0 0, .slice none 0 0, .slice (some ⟨OB, 0, none⟩) n n, .slice na m mc, .int .i64 (d : Int)] 52) = w2 at *
  refine bodyPost_ret (v := .tuple #[.slice (some ⟨Wb, 0, none⟩) n n, .slice none 0 0, .slice none 0 0, .slice (some ⟨OB, 0, none⟩) n n, .slice na m mc, .int .i64 (d : Int)]) (by simp [results, Trym.results20, go_sem]) rfl ⟨Wb, OB, s, t, by rw [HD.out], g1, g2, g3, ?_, ?_, ?_, ?_⟩
  · exact (g4.of_block (hb.block _ g4.lt)).drewN _
  · exact (g5.of_block (hb.block _ g5.lt)).drewN _
  · exact fun h0 => ((g6 h0).of_block (hb.block _ (g6 h0).lt)).drewN _
  · exact (g7.andThen (Ch.of_below hb []) (fun i hi => by simp at hi)).drewN _

end Go.Proofs.Qxb6003649aMods
