/- Law: FnSortPointsSortsStably. -/
import Derived.Test.Qxb6003649aModsZz17
import Derived.Test.Qxb6003649aModsArgs
import Derived.Laws.Cover3
namespace Go.Proofs.Qxb6003649aMods
open Go.RowKit
set_option linter.unusedVariables false

set_option maxHeartbeats 2000000 in
set_option maxRecDepth 100000 in
theorem law4 (a0 : Option Addr) (n0 c0 : Nat) (a1 : Option Addr) (n c1 : Nat) (w : World) (fo p : Nat → Nat) (h0 : ArgN .u16 65536 w a0 n0 c0 fo) (h1 : ArgN .u64 18446744073709551616 w a1 n c1 p) :
    Calls Trym.prog 4 #[.slice a0 n0 c0, .slice a1 n c1] w fun e w' => e = .returned (.bool true) ∧ Below w.heap.size w w' := by
  have l0 := h0.len_le
  have l1 := h1.len_le
  unfold maxLen at l0 l1
  go_enter Trym.func4, Trym.ntmps4
  go_wp2_with fail
  refine (bytes14_any w a0 a1 n0 c0 n c1 h0.len_le h1.len_le).mono ?_
  rintro e w' ⟨b, rfl, rfl⟩
  obtain ⟨w, rfl⟩ : ∃ w : World, w = w' := ⟨_, rfl⟩
  cases b with
  | false =>
    go_wp2_with fail
    go_ret
    exact ⟨rfl, Below.refl _ _⟩
  | true =>
    by_cases t1 : 131072 < n
    · go_wp2_with fail
      go_ret
      exact ⟨rfl, Below.refl _ _⟩
    by_cases t2 : 524288 < n0
    · go_wp2_with fail
      go_ret
      exact ⟨rfl, Below.refl _ _⟩
    by_cases t3 : 1048576 < n * 8 + n0 * 2
    · go_wp2_with fail
      go_ret
      exact ⟨rfl, Below.refl _ _⟩
    by_cases t4 : n0 = n
    case neg =>
      go_wp2_with fail
      go_ret
      exact ⟨rfl, Below.refl _ _⟩
    case pos =>
      subst t4
      go_wp2_with fail
      go_loopw [5] (fun i wr => wr = w ∧ ∃ k : Nat, k ≤ n0 ∧ i = .int .i64 k ∧ ∀ x, x < k → p x % 4294967296 ≤ 65535) (fun i _ => n0 - (intOf i).toNat)
      case atStart => exact ⟨rfl, 0, by omega, rfl, fun x hx => by omega⟩
      case round =>
        obtain ⟨rfl, k, hk, rfl, hf⟩ := hrel
        by_cases hlt : k < n0
        · obtain ⟨b, off, rfl, hb, hc⟩ := h1.cells (by omega)
          have hck := hc k hlt
          have hpk := h1.lt k hlt
          by_cases hbig : p k % 4294967296 ≤ 65535
          · have HF : Hid (∀ x, x < k → p x % 4294967296 ≤ 65535) := hf
            clear hf hc
            go_wp2_with fail
            go_roundw
            case rel =>
              refine ⟨trivial, k + 1, by omega, by go_num, fun x hx => ?_⟩
              by_cases e : x = k
              · subst e; exact hbig
              · exact HF.out x (by omega)
            case measure => simp [intOf]; omega
          · clear hf hc
            go_wp2_with fail
            go_ret
            exact ⟨rfl, Below.refl _ _⟩
        · obtain rfl : k = n0 := by omega
          obtain ⟨w, rfl⟩ : ∃ w : World, w = wr := ⟨_, rfl⟩
          have HF : Hid (∀ x, x < k → p x % 4294967296 ≤ 65535) := hf
          clear hf l0 l1
          go_wp2_with fail
          refine (clone10_any w a0 k c0 (fun i => .int .u16 (fo i : Int)) (fun _ => rfl) (by omega) h0.nil h0.rd).mono ?_
          rintro e w1 ⟨oa, rfl, hb1, ho1, -⟩
          have hrd1 : Rd w1 a1 k (fun i => .int .u64 (p i : Int)) := fun hp0 => by
            obtain ⟨x, hx, hxc⟩ := h1.rd hp0
            exact ⟨x, hx, fun i hi => (hb1.cell (World.block_lt_of_cell? w _ (hxc i hi))).trans (hxc i hi)⟩
          go_wp2_with fail
          refine (clone15_any w1 a1 k c1 (fun i => .int .u64 (p i : Int)) (fun _ => rfl) (by omega) h1.nil hrd1).mono ?_
          rintro e w2 ⟨pa, rfl, hb2, hp2, hpn⟩
          have hrd2 : Rd w2 pa k (fun i => .int .u64 (p i : Int)) := fun hp0 => by
            obtain ⟨hx, hr⟩ := hp2 hp0
            refine ⟨_, hx, fun i hi => ?_⟩
            have hadd : (⟨w1.heap.size, 0, none⟩ : Addr).add i = ⟨w1.heap.size, i, none⟩ := by unfold Addr.add; split <;> simp_all
            rw [hadd]
            exact hr.cell hi
          have hnil2 : pa = none → k = 0 ∧ k = 0 := fun e => by have := (h1.nil (hpn.1 e)).1; omega
          go_wp2_with fail
          refine (clone15_any w2 pa k k (fun i => .int .u64 (p i : Int)) (fun _ => rfl) (by omega) hnil2 hrd2).mono ?_
          rintro e w3 ⟨ra, rfl, hb3, hr3, -⟩
          have hs12 := hb2.size
          have hs01 := hb1.size
          have hs23 := hb3.size
          have ho3 := (ho1.after hb2).after hb3
          have hp3 := hp2.after hb3
          have hol := ho1.lt
          have hpl := hp2.lt
          have hrl := hr3.lt
          have HB3 : Hid (Below w.heap.size w w3) := (hb1.trans (hb2.mono hs01)).trans (hb3.mono (by omega))
          have HP : Hid (∀ x, x < k → p x < 18446744073709551616) := h1.lt
          clear hb1 hb2 hb3 ho1 hp2 hrd1 hrd2 hnil2 hpn h0 h1
          generalize hOB : w.heap.size = OB at *
          have HOB : Hid (w.heap.size = OB) := hOB
          clear hOB
          generalize w1.heap.size = PB at *
          generalize w2.heap.size = RB at *
          have hmk := run_make_row' (P := Trym.prog) 33 35 (.int .u64 0) 8 Trym.underlying33 info35 rfl .i64 .i64 k (by omega) (by omega)
          go_wp2_with fail
          have hk0 : TRow .u64 35 (w3.alloc (.cells (madeCells #[.int .u64 0] k) 35)) w3.heap.size k (fun _ => 0) := World.rowIs_made w3 (.int .u64 0) k 35
          have hkb : Below w3.heap.size w3 (w3.alloc (.cells (madeCells #[.int .u64 0] k) 35)) := (Below.refl _ _).alloc (Nat.le_refl _) _
          generalize w3.alloc (.cells (madeCells #[.int .u64 0] k) 35) = w3a at *
          generalize hKB : w3.heap.size = KB at *
          have HKB : Hid (w3.heap.size = KB) := hKB
          clear hKB hmk
          go_loopw [8] (fun i wr => ∃ j : Nat, j ≤ k ∧ i = .int .i64 j ∧ TRow .u64 35 wr KB k (fun x => if x < j then p x / 4294967296 else 0) ∧ Below KB w3 wr) (fun i _ => k - (intOf i).toNat)
          case atStart => exact ⟨0, by omega, rfl, hk0.congr (fun i _ => by simp), hkb⟩
          case round =>
            clear hk0 hkb
            obtain ⟨j, hj, rfl, hT, hB⟩ := hrel
            by_cases hjk : j < k
            · obtain ⟨rfl, hrr⟩ := hr3 (by omega)
              have hcr : wr.cell? ⟨RB, j, none⟩ = some (.int .u64 (p j : Int)) := (hB.cell (by exact hrl (by omega))).trans (hrr.cell hjk)
              have hck := hT.cell hjk
              have hfk := hT.frozen j
              have hpj := HP.out j hjk
              have HT : Hid (TRow .u64 35 (wr.setCell ⟨KB, j, none⟩ (.int .u64 ((p j / 4294967296 : Nat) : Int))) KB k (fun x => if x < j + 1 then p x / 4294967296 else 0)) := (hT.set j _).congr (fun x hx => by
                by_cases e : x = j
                · subst e; rw [if_pos rfl, if_pos (by omega)]
                · rw [if_neg e]
                  by_cases e2 : x < j
                  · rw [if_pos e2, if_pos (by omega)]
                  · rw [if_neg e2, if_neg (by omega)])
              have HBB : Hid (Below KB w3 wr) := hB
              clear hT hB
              go_wp2_with fail
              go_roundw
              case rel => exact ⟨j + 1, by omega, by go_num, HT.out, HBB.out.setCell (by simp) _⟩
              case measure => simp [intOf]; omega
            · obtain rfl : j = k := by omega
              have hT2 : TRow .u64 35 wr KB j (fun x => p x / 4294967296) := hT.congr (fun x hx => by rw [if_pos hx])
              obtain ⟨w4, rfl⟩ : ∃ w4 : World, w4 = wr := ⟨_, rfl⟩
              go_wp2_with fail
              refine (order_any w4 KB j j (some ⟨KB, 0, none⟩) (fun x => p x / 4294967296) (by omega) (fun _ => ⟨rfl, hT2⟩)).mono ?_
              rintro e w5 ⟨x, o, rfl, hx, hro, hso, hb5⟩
              have hkl := hT2.lt
              have hs5 := hb5.size
              have hb35 : Below KB w3 w5 := hB.trans (hb5.mono (by omega))
              have ho5 := ho3.later hb35 (fun h => by have := hol h; omega)
              have hp5 := hp3.later hb35 (fun h => by have := hpl h; omega)
              have hr5 := hr3.later hb35 hrl
              have HB5 : Hid (Below OB w w5) := HB3.out.trans (hb35.mono (by omega))
              clear hT hT2 hB hb5 hb35 ho3 hp3 hr3 HB3
              have hOO : ∀ x, x < j → p x % 4294967296 = p x % 65536 := fun x hx => by have := HF.out x hx; omega
              go_wp2_with fail
              refine (zz17_any w5 PB OB j j j pa oa p (by omega) hp5 ⟨fo, ho5⟩ HP.out hOO (fun h => by have := hol h; omega)).mono ?_
              rintro e w6 ⟨Wb, s, tt, rfl, hss, ht1, ht2, hWr, hOr, hPr, hch⟩
              have hr6 : Own w6 RB 35 ra j (fun i => .int .u64 (p i : Int)) := fun hj0 => ⟨(hr5 hj0).1, (hr5 hj0).2.of_block (hch.block RB (hr5.lt hj0) (not_Lx0 (fun h => by have := hol h; have := hpl h; simp; omega)))⟩
              have hp6 : Own w6 PB 35 pa j (fun i => .int .u64 (p (tt i) : Int)) := fun hj0 => ⟨(hp5 hj0).1, hPr hj0⟩
              have hro6 : IRow w6 x j o := hro.of_block (hch.block x (World.rowIs.lt hro) (not_Lx0 (fun h => by have := hol h; have := hpl h; simp; omega)))
              have HB6 : Hid (Below OB w w6) := HB5.out.trans (hch.below (by omega) (fun i hi => by unfold Lx0 at hi; split at hi <;> simp at hi; omega))
              have hoa : 0 < j → oa = some ⟨OB, 0, none⟩ := fun h => (ho5 h).1
              clear hro ho5 hp5 hr5 hch HB5 hPr
              go_wp2_with fail
              go_loopw [14] (fun i wr => wr = w6 ∧ ∃ k : Nat, k ≤ j ∧ i = .int .i64 k) (fun i _ => j - (intOf i).toNat)
              case atStart => exact ⟨rfl, 0, by omega, rfl⟩
              case round =>
                obtain ⟨rfl, k, hk2, rfl⟩ := hrel
                by_cases hkj : k < j
                · obtain ⟨rfl, hrr⟩ := hr6 (by omega)
                  obtain rfl := hoa (by omega)
                  have q1 := hro6.cell hkj
                  have q2 := hso.lt k hkj
                  have q3 := hrr.cell q2
                  have q4 := hWr.cell hkj
                  have q5 := (hOr (by omega)).cell hkj
                  simp only [← hso.eq hss hkj] at q4 q5
                  have q6 := HP.out _ q2
                  have HRR : Hid (wr.rowIs RB 35 j (fun i => .int .u64 (p i : Int))) := hrr
                  clear hr6 hrr hro6 hWr hOr
                  have q7 := u16wrap (p (o k))
                  generalize p (o k) = pk at *
                  generalize o k = ok at *
                  go_wp2_with fail
                  go_roundw
                  case rel => exact ⟨trivial, k + 1, by omega, by go_num⟩
                  case measure => simp [intOf]; omega
                · obtain rfl : k = j := by omega
                  obtain ⟨w7, rfl⟩ : ∃ w7 : World, w7 = wr := ⟨_, rfl⟩
                  clear hWr hOr hro6
                  go_wp2_with fail
                  refine (same_any w7 RB PB k k k ra pa p tt (by omega) hr6 hp6 ht1 ht2).mono ?_
                  rintro e w8 ⟨rfl, hb8⟩
                  have HB8 : Hid (Below OB w w8) := HB6.out.trans (hb8.mono (by have := HB6.out.size; rw [HOB.out] at this; exact this))
                  clear hb8 hr6 hp6
                  go_wp2_with fail
                  go_ret
                  exact ⟨rfl, by rw [HOB.out]; exact HB8.out⟩

end Go.Proofs.Qxb6003649aMods
