/- Law: FnNewCircleLayout. -/
import Derived.Test.Qxb6003649aModsZz20
import Derived.Laws.Cover3
namespace Go.Proofs.Qxb6003649aMods
open Go.RowKit
set_option linter.unusedVariables false

theorem Own.rd {w : World} {b : Nat} {t : TypeId} {a : Option Addr} {n : Nat} {f : Nat → Value} (h : Own w b t a n f) : Rd w a n f := fun h0 => by
  obtain ⟨hx, hr⟩ := h h0
  refine ⟨_, hx, fun i hi => ?_⟩
  have hadd : (⟨b, 0, none⟩ : Addr).add i = ⟨b, i, none⟩ := by unfold Addr.add; split <;> simp_all
  rw [hadd]
  exact hr.cell hi
theorem Rd.later {w w' : World} {a : Option Addr} {n : Nat} {f : Nat → Value} (h : Rd w a n f) (hb : Below w.heap.size w w') : Rd w' a n f := fun h0 => by
  obtain ⟨x, hx, hxc⟩ := h h0
  exact ⟨x, hx, fun i hi => (hb.cell (World.block_lt_of_cell? w _ (hxc i hi))).trans (hxc i hi)⟩

set_option maxHeartbeats 4000000 in
set_option maxRecDepth 100000 in
theorem law5 (a0 : Option Addr) (m c0 : Nat) (a1 : Option Addr) (n c1 : Nat) (w : World) (ss : Nat → ByteArray) (p : Nat → Nat) (h0 : ArgS w a0 m c0 ss) (h1 : ArgN .u64 18446744073709551616 w a1 n c1 p) :
    Calls Trym.prog 5 #[.slice a0 m c0, .slice a1 n c1] w fun e w' => e = .returned (.bool true) ∧ Below w.heap.size w w' := by
  have l0 := h0.len_le
  have l1 := h1.len_le
  unfold maxLen at l0 l1
  go_enter Trym.func5, Trym.ntmps5
  go_wp2_with fail
  refine (bytes19_any w a0 a1 m c0 n c1 ss h0 h1.len_le).mono ?_
  rintro e w' ⟨b, rfl, rfl, hall⟩
  obtain ⟨w, rfl⟩ : ∃ w : World, w = w' := ⟨_, rfl⟩
  cases b with
  | false =>
    go_wp2_with fail
    go_ret
    exact ⟨rfl, Below.refl _ _⟩
  | true =>
    by_cases t1 : 131072 < n
    · go_wp2_with fail
      go_ret
      exact ⟨rfl, Below.refl _ _⟩
    by_cases t2 : 65536 < m
    · go_wp2_with fail
      go_ret
      exact ⟨rfl, Below.refl _ _⟩
    by_cases t3 : 1048576 < n * 8 + m * 16
    · go_wp2_with fail
      go_ret
      exact ⟨rfl, Below.refl _ _⟩
    clear l0 l1
    have HSZ : Hid (∀ k, k < m → (ss k).size ≤ 1048576) := hall rfl
    clear hall
    go_wp2_with fail
    go_loopw [5, 6] (fun sz si wr => wr = w ∧ ∃ z k : Nat, k ≤ m ∧ z ≤ 1048576 ∧ sz = .int .i64 z ∧ si = .int .i64 k) (fun _ si _ => m - (intOf si).toNat)
    case atStart => exact ⟨rfl, n * 8 + m * 16, 0, by omega, by omega, by go_num, rfl⟩
    case round =>
      obtain ⟨rfl, z, k, hk, hz, rfl, rfl⟩ := hrel
      by_cases hlt : k < m
      · obtain ⟨b, off, rfl, hb, hc⟩ := h0.cells (by omega)
        have hck := hc k hlt
        have hsz := HSZ.out k hlt
        clear hc
        by_cases u2 : 1048576 < z + (ss k).size
        · go_wp2_with fail
          all_goals (go_ret; exact ⟨rfl, Below.refl _ _⟩)
        go_wp2_with fail
        go_roundw
        case rel => exact ⟨trivial, z + (ss k).size, k + 1, by omega, by omega, by go_num, by go_num⟩
        case measure => simp [intOf]; omega
      · obtain ⟨w, rfl⟩ : ∃ w : World, w = wr := ⟨_, rfl⟩
        go_wp2_with fail
        go_loopw [7] (fun i wr => wr = w ∧ ∃ k : Nat, k ≤ n ∧ i = .int .i64 k ∧ ∀ x, x < k → p x % 4294967296 < m) (fun i _ => n - (intOf i).toNat)
        case atStart => exact ⟨rfl, 0, by omega, rfl, fun x hx => by omega⟩
        case round =>
          obtain ⟨rfl, k2, hk2, rfl, hf⟩ := hrel
          by_cases hlt2 : k2 < n
          · obtain ⟨b, off, rfl, hb, hc⟩ := h1.cells (by omega)
            have hck := hc k2 hlt2
            have hpk := h1.lt k2 hlt2
            have HF : Hid (∀ x, x < k2 → p x % 4294967296 < m) := hf
            clear hf hc
            by_cases hbig : p k2 % 4294967296 < m
            · go_wp2_with fail
              go_roundw
              case rel =>
                refine ⟨trivial, k2 + 1, by omega, by go_num, fun x hx => ?_⟩
                by_cases e : x = k2
                · subst e; exact hbig
                · exact HF.out x (by omega)
              case measure => simp [intOf]; omega
            · go_wp2_with fail
              go_ret
              exact ⟨rfl, Below.refl _ _⟩
          · obtain rfl : k2 = n := by omega
            obtain ⟨w, rfl⟩ : ∃ w : World, w = wr := ⟨_, rfl⟩
            have HF : Hid (∀ x, x < k2 → p x % 4294967296 < m) := hf
            clear hf
            have HP : Hid (∀ x, x < k2 → p x < 18446744073709551616) := h1.lt
            go_wp2_with fail
            refine (clone11_any w a0 m c0 (fun i => .string (ss i)) (fun _ => rfl) (by omega) h0.nil h0.rd).mono ?_
            rintro e w1 ⟨na, rfl, hb1, hn1, hnn⟩
            have hrd1 := h1.rd.later hb1
            go_wp2_with fail
            refine (clone15_any w1 a1 k2 c1 (fun i => .int .u64 (p i : Int)) (fun _ => rfl) (by omega) h1.nil hrd1).mono ?_
            rintro e w2 ⟨pa, rfl, hb2, hp2, hpn⟩
            have hnil2 : pa = none → k2 = 0 ∧ k2 = 0 := fun e => by have := (h1.nil (hpn.1 e)).1; omega
            go_wp2_with fail
            refine (clone15_any w2 pa k2 k2 (fun i => .int .u64 (p i : Int)) (fun _ => rfl) (by omega) hnil2 hp2.rd).mono ?_
            rintro e w3 ⟨ra, rfl, hb3, hr3, -⟩
            have hn3 := (hn1.after hb2).after hb3
            have hnil3 : na = none → m = 0 ∧ m = 0 := fun e => by have := (h0.nil (hnn.1 e)).1; omega
            go_wp2_with fail
            refine (clone11_any w3 na m m (fun i => .string (ss i)) (fun _ => rfl) (by omega) hnil3 hn3.rd).mono ?_
            rintro e w4 ⟨ka, rfl, hb4, hk4, -⟩
            have s1 := hb1.size
            have s2 := hb2.size
            have s3 := hb3.size
            have s4 := hb4.size
            have hn4 := hn3.after hb4
            have hp4 := (hp2.after hb3).after hb4
            have hr4 := hr3.after hb4
            have ln := hn1.lt
            have lp := hp2.lt
            have lr := hr3.lt
            have lk := hk4.lt
            have HB4 : Hid (Below w.heap.size w w4) := ((hb1.trans (hb2.mono s1)).trans (hb3.mono (by omega))).trans (hb4.mono (by omega))
            clear hb1 hb2 hb3 hb4 hn1 hp2 hr3 hn3 hrd1 hnil2 hnil3 hpn hnn h0 h1
            generalize hNB : w.heap.size = NB at *
            have HNB : Hid (w.heap.size = NB) := hNB
            clear hNB
            generalize w1.heap.size = PB at *
            generalize w2.heap.size = RB at *
            generalize w3.heap.size = KN at *
            have hmk := run_make_row' (P := Trym.prog) 33 35 (.int .u64 0) 8 Trym.underlying33 info35 rfl .i64 .i64 k2 (by omega) (by omega)
            go_upto_block 4 with fail
            have hk0 : TRow .u64 35 (w4.alloc (.cells (madeCells #[.int .u64 0] k2) 35)) w4.heap.size k2 (fun _ => 0) := World.rowIs_made w4 (.int .u64 0) k2 35
            have hkb : Below w4.heap.size w4 (w4.alloc (.cells (madeCells #[.int .u64 0] k2) 35)) := (Below.refl _ _).alloc (Nat.le_refl _) _
            generalize w4.alloc (.cells (madeCells #[.int .u64 0] k2) 35) = w4a at *
            generalize w4.heap.size = KB at *
            clear hmk
            go_cut [] (fun wc => TRow .u64 35 wc KB k2 (fun x => p x / 4294967296) ∧ Below KB w4 wc)
            case first =>
              go_wp2_with fail
              go_loopg [11] k2 (fun g i wr => ∃ j : Nat, j + g = k2 ∧ i = .int .i64 j ∧ TRow .u64 35 wr KB k2 (fun x => if x < j then p x / 4294967296 else 0) ∧ Below KB w4 wr)
              case atStart => exact ⟨0, by omega, rfl, hk0.congr (fun i _ => by simp), hkb⟩
              case round =>
                clear hk0 hkb
                obtain ⟨j, hj, rfl, hT, hB⟩ := hrel
                by_cases hjk : j < k2
                · obtain ⟨rfl, hrr⟩ := hr4 (by omega)
                  have hcr : wr.cell? ⟨RB, j, none⟩ = some (.int .u64 (p j : Int)) := (hB.cell (by have := lr (by omega); show RB < KB; omega)).trans (hrr.cell hjk)
                  have hck := hT.cell hjk
                  have hfk := hT.frozen j
                  have hpj := HP.out j hjk
                  have HT : Hid (TRow .u64 35 (wr.setCell ⟨KB, j, none⟩ (.int .u64 ((p j / 4294967296 : Nat) : Int))) KB k2 (fun x => if x < j + 1 then p x / 4294967296 else 0)) := (hT.set j _).congr (fun x hx => by
                    by_cases e : x = j
                    · subst e; rw [if_pos rfl, if_pos (by omega)]
                    · rw [if_neg e]
                      by_cases e2 : x < j
                      · rw [if_pos e2, if_pos (by omega)]
                      · rw [if_neg e2, if_neg (by omega)])
                  have HBB : Hid (Below KB w4 wr) := hB
                  have HJ : Hid (j + gk = k2) := hj
                  clear hT hB hj
                  go_wp2_with fail
                  go_roundg (k2 - (j + 1))
                  case measure => have := HJ.out; omega
                  case rel => exact ⟨j + 1, by omega, by go_num, HT.out, HBB.out.setCell (by simp) _⟩
                · obtain rfl : j = k2 := by omega
                  have HT : Hid (TRow .u64 35 wr KB j (fun x => p x / 4294967296) ∧ Below KB w4 wr) := ⟨hT.congr (fun x hx => by rw [if_pos hx]), hB⟩
                  clear hT hB
                  go_wp2_with fail
                  go_meet
                  case rel => exact HT.out
            case rest =>
              clear hk0 hkb
              obtain ⟨hT, hB⟩ := hcut
              have hkl := hT.lt
              obtain ⟨w5, rfl⟩ : ∃ w5 : World, w5 = wc := ⟨_, rfl⟩
              have hn5 := hn4.later hB (fun h => by have := ln h; omega)
              have hp5 := hp4.later hB (fun h => by have := lp h; omega)
              have hr5 := hr4.later hB (fun h => by have := lr h; omega)
              have hk5 := hk4.later hB lk
              have HB5 : Hid (Below NB w w5) := HB4.out.trans (hB.mono (by omega))
              clear hn4 hp4 hr4 hk4 HB4 hB
              go_wp2_with fail
              refine (order_any w5 KB k2 k2 (some ⟨KB, 0, none⟩) (fun x => p x / 4294967296) (by omega) (fun _ => ⟨rfl, hT⟩)).mono ?_
              rintro e w6 ⟨x, o, rfl, hx, hro, hso, hb6⟩
              have hn6 := hn5.after hb6
              have hp6 := hp5.after hb6
              have hr6 := hr5.after hb6
              have hk6 := hk5.after hb6
              have s6 := hb6.size
              have HB6 : Hid (Below NB w w6) := HB5.out.trans (hb6.mono (by omega))
              have lx := World.rowIs.lt hro
              clear hn5 hp5 hr5 hk5 HB5 hb6 hT
              have hmk2 := run_make_row' (P := Trym.prog) 45 4 (.bool false) 1 Trym.underlying45 info4 rfl .i64 .i64 m (by omega) (by omega)
              go_upto_block 6 with fail
              have hS0 : (w6.alloc (.cells (madeCells #[.bool false] m) 4)).rowIs w6.heap.size 4 m (fun _ => .bool false) := World.rowIs_made w6 (.bool false) m 4
              have hbS : Below w6.heap.size w6 (w6.alloc (.cells (madeCells #[.bool false] m) 4)) := (Below.refl _ _).alloc (Nat.le_refl _) _
              generalize w6.alloc (.cells (madeCells #[.bool false] m) 4) = w6a at *
              generalize w6.heap.size = SB at *
              clear hmk2
              go_cut [14] (fun v wc => v = .int .i64 (DC (fun x => p x % 65536) m k2 : Int) ∧ Below SB w6 wc)
              case first =>
                go_wp2_with fail
                go_loopg [14, 15] k2 (fun g sc si wr => ∃ j : Nat, j + g = k2 ∧ si = .int .i64 j ∧ sc = .int .i64 (DC (fun x => p x % 65536) m j : Int) ∧ wr.rowIs SB 4 m (fun v => .bool (seen (fun x => p x % 65536) j v)) ∧ Below SB w6 wr)
                case atStart => exact ⟨0, by omega, rfl, by rw [DC_zero]; rfl, hS0, hbS⟩
                case round =>
                  clear hS0 hbS
                  obtain ⟨j, hj, rfl, rfl, hrow, hB⟩ := hrel
                  by_cases hjk : j < k2
                  · obtain ⟨rfl, hrr⟩ := hr6 (by omega)
                    have hlr := lr (by omega)
                    have hcr : wr.cell? ⟨RB, j, none⟩ = some (.int .u64 (p j : Int)) := (hB.cell (by show RB < SB; omega)).trans (hrr.cell hjk)
                    have hpj := HP.out j hjk
                    have hom := HF.out j hjk
                    obtain ⟨oo, hoo⟩ : ∃ oo, oo = p j % 65536 := ⟨_, rfl⟩
                    have hcv : (p j : Int) % 4294967296 = (oo : Int) := by omega
                    have hol : oo < m := by omega
                    have hcb := hrow.cell hol
                    have hfb := hrow.frozen oo
                    have hdc := DC_le (fun x => p x % 65536) m j
                    have HJ : Hid (j + gk = k2) := hj
                    by_cases hsn : seen (fun x => p x % 65536) j oo = true
                    · have HS : Hid (wr.rowIs SB 4 m (fun v => .bool (seen (fun x => p x % 65536) (j + 1) v)) ∧ DC (fun x => p x % 65536) m (j + 1) = DC (fun x => p x % 65536) m j) := by
                        refine ⟨hrow.congr (fun v _ => ?_), DC_seen (by rw [← hoo]; exact hsn)⟩
                        simp only [seen]
                        by_cases e : p j % 65536 = v
                        · subst e; rw [hoo] at hsn; simp [hsn]
                        · simp [e]
                      have HBB : Hid (Below SB w6 wr) := hB
                      rw [hsn] at hcb
                      clear hrow hB hj hoo hsn
                      generalize hd : DC (fun x => p x % 65536) m j = d at *
                      have HD : Hid (DC (fun x => p x % 65536) m j = d) := hd
                      clear hd
                      go_wp2_with fail
                      go_roundg (k2 - (j + 1))
                      case measure => have := HJ.out; omega
                      case rel => exact ⟨j + 1, by omega, by go_num, by rw [HS.out.2], HS.out.1, HBB.out⟩
                    · have hsf : seen (fun x => p x % 65536) j oo = false := by simpa using hsn
                      have HS : Hid ((wr.setCell ⟨SB, oo, none⟩ (.bool true)).rowIs SB 4 m (fun v => .bool (seen (fun x => p x % 65536) (j + 1) v)) ∧ DC (fun x => p x % 65536) m (j + 1) = DC (fun x => p x % 65536) m j + 1) := by
                        refine ⟨(hrow.set oo (.bool true)).congr (fun v _ => ?_), DC_new (by rw [← hoo]; exact hsf) (by rw [← hoo]; exact hol)⟩
                        simp only [seen]
                        by_cases e : v = oo
                        · subst e; simp [hoo]
                        · rw [if_neg e]
                          have : ¬ p j % 65536 = v := fun e2 => e (by omega)
                          simp [this]
                      have HBB : Hid (Below SB w6 wr) := hB
                      rw [hsf] at hcb
                      clear hrow hB hj hoo hsn hsf
                      generalize hd : DC (fun x => p x % 65536) m j = d at *
                      have HD : Hid (DC (fun x => p x % 65536) m j = d) := hd
                      clear hd
                      go_wp2_with fail
                      go_roundg (k2 - (j + 1))
                      case measure => have := HJ.out; omega
                      case rel => exact ⟨j + 1, by omega, by go_num, by rw [HS.out.2]; go_num, HS.out.1, HBB.out.setCell (by simp) _⟩
                  · obtain rfl : j = k2 := by omega
                    have HBB : Hid (Below SB w6 wr) := hB
                    clear hrow hB
                    go_wp2_with fail
                    go_meet
                    case rel => exact ⟨rfl, HBB.out⟩
              case rest =>
                clear hS0 hbS
                obtain ⟨rfl, hB⟩ := hcut
                obtain ⟨w8, rfl⟩ : ∃ w8 : World, w8 = wc := ⟨_, rfl⟩
                have hn8 := hn6.later hB (fun h => by have := ln h; omega)
                have hp8 := hp6.later hB (fun h => by have := lp h; omega)
                have hr8 := hr6.later hB (fun h => by have := lr h; omega)
                have hk8 := hk6.later hB (fun h => by have := lk h; omega)
                have hro8 : IRow w8 x k2 o := hro.of_block (hB.block x lx)
                have s8 := hB.size
                have HB8 : Hid (Below NB w w8) := HB6.out.trans (hB.mono (by omega))
                clear hn6 hp6 hr6 hk6 hro hB HB6
                go_wp2_with fail
                refine (zz20_any w8 PB k2 k2 m m pa na p (by omega) (by omega) hp8 HP.out HF.out).mono ?_
                rintro e w9 ⟨Wb, OB, s, tt, rfl, hss, ht1, ht2, hWr, hOr, hPr, hch⟩
                have hr9 : Own w9 RB 35 ra k2 (fun i => .int .u64 (p i : Int)) := fun h => ⟨(hr8 h).1, (hr8 h).2.of_block (hch.block RB (hr8.lt h) (not_Lx0 (fun h => by have := lp h; simp; omega)))⟩
                have hn9 : Own w9 NB 9 na m (fun i => .string (ss i)) := fun h => ⟨(hn8 h).1, (hn8 h).2.of_block (hch.block NB (hn8.lt h) (not_Lx0 (fun _ => by have := ln h; simp; omega)))⟩
                have hk9 : Own w9 KN 9 ka m (fun i => .string (ss i)) := fun h => ⟨(hk8 h).1, (hk8 h).2.of_block (hch.block KN (hk8.lt h) (not_Lx0 (fun h2 => by have := lp h2; simp; omega)))⟩
                have hp9 : Own w9 PB 35 pa k2 (fun i => .int .u64 (p (tt i) : Int)) := fun h => ⟨(hp8 h).1, hPr h⟩
                have hro9 : IRow w9 x k2 o := hro8.of_block (hch.block x (World.rowIs.lt hro8) (not_Lx0 (fun h => by have := lp h; simp; omega)))
                have HB9 : Hid (Below NB w w9) := HB8.out.trans (hch.below (by have := HB8.out.size; rw [HNB.out] at this; exact this) (fun i hi => by unfold Lx0 at hi; split at hi <;> simp at hi; omega))
                clear hn8 hp8 hr8 hk8 hro8 hch HB8 hPr
                generalize DC (fun x => p x % 65536) m k2 = d at *
                go_upto_block 8 with fail
                go_cut [] (fun wc => wc = w9)
                case first =>
                  go_wp2_with fail
                  go_loopg [23] k2 (fun g i wr => wr = w9 ∧ ∃ k : Nat, k + g = k2 ∧ i = .int .i64 k)
                  case atStart => exact ⟨rfl, 0, by omega, rfl⟩
                  case round =>
                    obtain ⟨rfl, k3, hk3, rfl⟩ := hrel
                    by_cases hkj : k3 < k2
                    · obtain ⟨rfl, hrr⟩ := hr9 (by omega)
                      have q1 := hro9.cell hkj
                      have q2 := hso.lt k3 hkj
                      have q3 := hrr.cell q2
                      have q4 := hWr.cell hkj
                      have q5 := hOr.cell hkj
                      simp only [← hso.eq hss hkj] at q4 q5
                      have q6 := HP.out _ q2
                      have HK3 : Hid (k3 + gk = k2) := hk3
                      clear hr9 hrr hro9 hWr hOr hk3
                      have q7 := u16wrap (p (o k3))
                      generalize p (o k3) = pk at *
                      generalize o k3 = ok at *
                      go_wp2_with fail
                      go_roundg (k2 - (k3 + 1))
                      case measure => have := HK3.out; omega
                      case rel => exact ⟨rfl, k3 + 1, by omega, by go_num⟩
                    · obtain rfl : k3 = k2 := by omega
                      clear hro9 hWr hOr hr9 hn9 hk9 hp9
                      go_wp2_with fail
                      go_meet
                      case rel => rfl
                case rest =>
                  obtain rfl := hcut
                  obtain ⟨w9, rfl⟩ : ∃ w9 : World, w9 = wc := ⟨_, rfl⟩
                  clear hro9 hWr hOr
                  go_upto_block 10 with fail
                  go_cut [] (fun wc => ∃ mm, wc = w9.drewN mm)
                  case first =>
                    go_wp2_with fail
                    go_loopg [25] m (fun g i wr => (∃ mm, wr = w9.drewN mm) ∧ ∃ k : Nat, k + g = m ∧ i = .int .i64 k)
                    case atStart => exact ⟨⟨0, rfl⟩, 0, by omega, rfl⟩
                    case round =>
                      obtain ⟨⟨mm, rfl⟩, k3, hk3, rfl⟩ := hrel
                      by_cases hkj : k3 < m
                      · obtain ⟨rfl, hnr⟩ := hn9 (by omega)
                        obtain ⟨rfl, hkr⟩ := hk9 (by omega)
                        have q1 := hnr.cell hkj
                        have q2 := hkr.cell hkj
                        have HK3 : Hid (k3 + gk = m) := hk3
                        clear hn9 hk9 hnr hkr hr9 hp9 hk3
                        generalize ss k3 = sv at *
                        go_wp2_with fail
                        go_quiet (fail)
                        go_wp2_with fail
                        go_roundg (m - (k3 + 1))
                        case measure => have := HK3.out; omega
                        case rel => exact ⟨⟨_, rfl⟩, k3 + 1, by omega, by go_num⟩
                      · clear hr9 hn9 hk9 hp9
                        go_wp2_with fail
                        go_meet
                        case rel => exact ⟨_, rfl⟩
                  case rest =>
                    obtain ⟨mm, rfl⟩ := hcut
                    clear hn9 hk9
                    go_wp2_with fail
                    refine (same_any (w9.drewN mm) RB PB k2 k2 k2 ra pa p tt (by omega) hr9 hp9 ht1 ht2).mono ?_
                    rintro e w10 ⟨rfl, hb10⟩
                    have HB10 : Hid (Below NB w w10) := (below_drewN HB9.out mm).trans (hb10.mono (by have := HB9.out.size; rw [HNB.out] at this; exact this))
                    clear hb10 hr9 hp9
                    go_wp2_with fail
                    go_ret
                    exact ⟨rfl, by rw [HNB.out]; exact HB10.out⟩

end Go.Proofs.Qxb6003649aMods
