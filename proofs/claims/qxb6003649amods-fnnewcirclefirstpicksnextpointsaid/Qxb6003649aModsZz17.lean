/- Walks: ZZSortPoints; the bound on the lengths. -/
import Derived.Test.Qxb6003649aModsSort
namespace Go.Proofs.Qxb6003649aMods
open Go.RowKit
set_option linter.unusedVariables false

theorem bytes14_any (w : World) (a0 a1 : Option Addr) (n0 c0 n1 c1 : Nat) (h0 : n0 ≤ maxLen) (h1 : n1 ≤ maxLen) :
    Calls Trym.prog 14 #[.slice a0 n0 c0, .slice a1 n1 c1] w fun e w' => ∃ b, e = .returned (.bool b) ∧ w' = w := by
  unfold maxLen at h0 h1
  go_enter Trym.func14, Trym.ntmps14
  go_wp2
  all_goals (go_ret; exact ⟨_, rfl, rfl⟩)

/-- What ZZSortPoints leaves. -/
def Sorted17 (w : World) (pb ob n : Nat) (oa : Option Addr) (p : Nat → Nat) (e : Ending) (w' : World) : Prop :=
  ∃ (Wb : Nat) (s t : Nat → Nat), e = .returned (.tuple #[.slice (some ⟨Wb, 0, none⟩) n n, .slice none 0 0, .slice none 0 0, .slice oa n n]) ∧
    Stable n (fun x => p x / 4294967296) s ∧ (∀ i, i < n → t i < n) ∧ (∀ i j, i < n → j < n → t i = t j → i = j) ∧
    TRow .u32 25 w' Wb n (fun k => p (s k) / 4294967296) ∧ (0 < n → TRow .u16 42 w' ob n (fun k => p (s k) % 65536)) ∧
    (0 < n → TRow .u64 35 w' pb n (fun k => p (t k))) ∧ Ch (Lx0 n [pb, ob]) w w'

set_option maxHeartbeats 1000000 in
theorem zz17_any (w : World) (pb ob n c0 c1 : Nat) (pa oa : Option Addr) (p : Nat → Nat) (hn : n ≤ 131072) (hp : Own w pb 35 pa n (fun i => .int .u64 (p i : Int))) (ho : ∃ f : Nat → Nat, Own w ob 42 oa n (fun i => .int .u16 (f i : Int)))
    (hQ : ∀ x, x < n → p x < 18446744073709551616) (hO : ∀ x, x < n → p x % 4294967296 = p x % 65536) (n3 : 0 < n → pb ≠ ob) :
    Calls Trym.prog 17 #[.slice oa n n, .slice pa n c1] w fun e w' => Sorted17 w pb ob n oa p e w' := by
  go_enter Trym.func17, Trym.ntmps17
  go_wp2_with fail
  have hbA : Below w.heap.size w (w.alloc (.cells #[.slice none 0 0, .slice none 0 0, .slice none 0 0, .slice oa n n, .slice none 0 0, .int .i64 0] 52)) := (Below.refl _ _).alloc (Nat.le_refl _) _
  have hCA : CBlk (w.alloc (.cells #[.slice none 0 0, .slice none 0 0, .slice none 0 0, .slice oa n n, .slice none 0 0, .int .i64 0] 52)) w.heap.size (.slice none 0 0) (.slice oa n n) (.slice none 0 0) (.int .i64 0) := Deep.blk_alloc_new _ _
  generalize w.alloc (.cells #[.slice none 0 0, .slice none 0 0, .slice none 0 0, .slice oa n n, .slice none 0 0, .int .i64 0] 52) = wa at *
  obtain ⟨fo, ho⟩ := ho
  have hpl := hp.lt
  have hol := ho.lt
  refine (sort_any wa w.heap.size pb ob n c1 pa oa (.slice none 0 0) (.int .i64 0) p (fun x => p x / 4294967296) hn hCA (hp.after hbA) ⟨fo, ho.after hbA⟩ (fun x hx => ⟨hQ x hx, rfl⟩) hO (fun h0 => ⟨by have := hpl h0; omega, by have := hol h0; omega, n3 h0⟩)).mono ?_
  rintro e w' ⟨rfl, Wb, s, t, h1, h2, h3, h4, h5, h6, h7, h8, h9⟩
  have HR : Hid (Stable n (fun x => p x / 4294967296) s ∧ (∀ i, i < n → t i < n) ∧ (∀ i j, i < n → j < n → t i = t j → i = j) ∧ TRow .u32 25 w' Wb n (fun k => p (s k) / 4294967296) ∧ (0 < n → TRow .u16 42 w' ob n (fun k => p (s k) % 65536)) ∧
    (0 < n → TRow .u64 35 w' pb n (fun k => p (t k))) ∧ Ch (Lx0 n [pb, ob]) w w') := by
    refine ⟨h1, h2, h3, h6, h7, h8, ?_⟩
    refine (Ch.of_below hbA _).andThen h9 (fun i hi => ?_)
    rcases List.mem_cons.1 hi with rfl | hi
    · right; omega
    · exact .inl hi
  unfold CBlk at h5
  have c0 : w'.cell? ⟨w.heap.size, 0, none⟩ = some (.slice (some ⟨Wb, 0, none⟩) n n) := by simp [World.cell?, h5]
  have c1 : w'.cell? ⟨w.heap.size, 1, none⟩ = some (.slice none 0 0) := by simp [World.cell?, h5]
  have c2 : w'.cell? ⟨w.heap.size, 2, none⟩ = some (.slice none 0 0) := by simp [World.cell?, h5]
  have c3 : w'.cell? ⟨w.heap.size, 3, none⟩ = some (.slice oa n n) := by simp [World.cell?, h5]
  clear h1 h2 h3 h4 h5 h6 h7 h8 h9 hCA hbA
  go_wp2_with fail
  go_quiet (fail)
  go_wp2_with fail
  obtain ⟨g1, g2, g3, g4, g5, g6, g7⟩ := HR.out
  refine bodyPost_ret (v := .tuple #[.slice (some ⟨Wb, 0, none⟩) n n, .slice none 0 0, .slice none 0 0, .slice oa n n]) (by simp [results, Trym.results17, go_sem]) rfl ⟨Wb, s, t, rfl, g1, g2, g3, g4, g5, g6, g7.drewN _⟩

end Go.Proofs.Qxb6003649aMods
