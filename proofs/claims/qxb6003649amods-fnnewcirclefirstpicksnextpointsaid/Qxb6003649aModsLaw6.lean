/- Law: FnNewCircleFirstPicksNextPoint. -/
import Derived.Test.Qxb6003649aModsZz22
import Derived.Test.Qxb6003649aModsLawL
namespace Go.Proofs.Qxb6003649aMods
open Go.RowKit
set_option linter.unusedVariables false

set_option maxHeartbeats 4000000 in
set_option maxRecDepth 100000 in
theorem law6 (a0 : Option Addr) (m c0 : Nat) (a1 : Option Addr) (n c1 : Nat) (q : Nat) (hq : q < 4294967296) (w : World) (ss : Nat → ByteArray) (p : Nat → Nat) (h0 : ArgS w a0 m c0 ss) (h1 : ArgN .u64 18446744073709551616 w a1 n c1 p) :
    Calls Trym.prog 6 #[.slice a0 m c0, .slice a1 n c1, .int .u32 (q : Int)] w fun e w' => e = .returned (.bool true) ∧ Below w.heap.size w w' := by
  have l0 := h0.len_le
  have l1 := h1.len_le
  unfold maxLen at l0 l1
  go_enter Trym.func6, Trym.ntmps6
  go_wp2_with fail
  refine (bytes21_any w a0 a1 m c0 n c1 q ss h0 h1.len_le).mono ?_
  rintro e w' ⟨b, rfl, rfl, hall⟩
  obtain ⟨w, rfl⟩ : ∃ w : World, w = w' := ⟨_, rfl⟩
  cases b with
  | false =>
    go_wp2_with fail
    go_ret
    exact ⟨rfl, Below.refl _ _⟩
  | true =>
    by_cases t1 : 131072 < n
    · go_wp2_with fail
      go_ret
      exact ⟨rfl, Below.refl _ _⟩
    by_cases t2 : 65536 < m
    · go_wp2_with fail
      go_ret
      exact ⟨rfl, Below.refl _ _⟩
    by_cases t3 : 1048576 < n * 8 + m * 16
    · go_wp2_with fail
      go_ret
      exact ⟨rfl, Below.refl _ _⟩
    clear l0 l1
    have HSZ : Hid (∀ k, k < m → (ss k).size ≤ 1048576) := hall rfl
    clear hall
    go_wp2_with fail
    go_loopw [7, 8] (fun sz si wr => wr = w ∧ ∃ z k : Nat, k ≤ m ∧ z ≤ 1048576 ∧ sz = .int .i64 z ∧ si = .int .i64 k) (fun _ si _ => m - (intOf si).toNat)
    case atStart => exact ⟨rfl, n * 8 + m * 16, 0, by omega, by omega, by go_num, rfl⟩
    case round =>
      obtain ⟨rfl, z, k, hk, hz, rfl, rfl⟩ := hrel
      by_cases hlt : k < m
      · obtain ⟨b, off, rfl, hb, hc⟩ := h0.cells (by omega)
        have hck := hc k hlt
        have hsz := HSZ.out k hlt
        clear hc
        by_cases u2 : 1048576 < z + (ss k).size
        · go_wp2_with fail
          all_goals (go_ret; exact ⟨rfl, Below.refl _ _⟩)
        go_wp2_with fail
        go_roundw
        case rel => exact ⟨trivial, z + (ss k).size, k + 1, by omega, by omega, by go_num, by go_num⟩
        case measure => simp [intOf]; omega
      · obtain ⟨w, rfl⟩ : ∃ w : World, w = wr := ⟨_, rfl⟩
        by_cases t6 : n = 0
        · go_wp2_with fail
          go_ret
          exact ⟨rfl, Below.refl _ _⟩
        go_wp2_with fail
        go_loopw [9] (fun i wr => wr = w ∧ ∃ k : Nat, k ≤ n ∧ i = .int .i64 k ∧ ∀ x, x < k → p x % 4294967296 < m) (fun i _ => n - (intOf i).toNat)
        case atStart => exact ⟨rfl, 0, by omega, rfl, fun x hx => by omega⟩
        case round =>
          obtain ⟨rfl, k2, hk2, rfl, hf⟩ := hrel
          by_cases hlt2 : k2 < n
          · obtain ⟨b, off, rfl, hb, hc⟩ := h1.cells (by omega)
            have hck := hc k2 hlt2
            have hpk := h1.lt k2 hlt2
            have HF : Hid (∀ x, x < k2 → p x % 4294967296 < m) := hf
            clear hf hc
            by_cases hbig : p k2 % 4294967296 < m
            · go_wp2_with fail
              go_roundw
              case rel =>
                refine ⟨trivial, k2 + 1, by omega, by go_num, fun x hx => ?_⟩
                by_cases e : x = k2
                · subst e; exact hbig
                · exact HF.out x (by omega)
              case measure => simp [intOf]; omega
            · go_wp2_with fail
              go_ret
              exact ⟨rfl, Below.refl _ _⟩
          · obtain rfl : k2 = n := by omega
            obtain ⟨w, rfl⟩ : ∃ w : World, w = wr := ⟨_, rfl⟩
            have HF : Hid (∀ x, x < k2 → p x % 4294967296 < m) := hf
            clear hf
            have HPP : Hid (∀ x, x < k2 → p x < 18446744073709551616) := h1.lt
            go_wp2_with fail
            refine (clone11_any w a0 m c0 (fun i => .string (ss i)) (fun _ => rfl) (by omega) h0.nil h0.rd).mono ?_
            rintro e w1 ⟨na, rfl, hb1, hn1, hnn⟩
            have hrd1 := h1.rd.later hb1
            go_wp2_with fail
            refine (clone15_any w1 a1 k2 c1 (fun i => .int .u64 (p i : Int)) (fun _ => rfl) (by omega) h1.nil hrd1).mono ?_
            rintro e w2 ⟨pa, rfl, hb2, hp2, hpn⟩
            have hnil2 : pa = none → k2 = 0 ∧ k2 = 0 := fun e => by have := (h1.nil (hpn.1 e)).1; omega
            go_wp2_with fail
            refine (clone15_any w2 pa k2 k2 (fun i => .int .u64 (p i : Int)) (fun _ => rfl) (by omega) hnil2 hp2.rd).mono ?_
            rintro e w3 ⟨ra, rfl, hb3, hr3, -⟩
            have s1 := hb1.size
            have s2 := hb2.size
            have s3 := hb3.size
            have hp3 := hp2.after hb3
            have lp := hp2.lt
            have lr := hr3.lt
            have HB3 : Hid (Below w.heap.size w w3) := (hb1.trans (hb2.mono s1)).trans (hb3.mono (by omega))
            clear hb1 hb2 hb3 hn1 hp2 hrd1 hnil2 hpn hnn h0 h1
            generalize hNB : w.heap.size = NB at *
            have HNB : Hid (w.heap.size = NB) := hNB
            clear hNB
            generalize w1.heap.size = PB at *
            generalize w2.heap.size = RB at *
            have hpos : 0 < k2 := by omega
            obtain ⟨rfl, hR3⟩ := hr3 hpos
            obtain ⟨rfl, hP3⟩ := hp3 hpos
            have lp' := lp hpos
            have hp3' : Own w3 PB 35 (some ⟨PB, 0, none⟩) k2 (fun i => .int .u64 (p i : Int)) := fun _ => ⟨rfl, hP3⟩
            have HP3 : Hid (Own w3 PB 35 (some ⟨PB, 0, none⟩) k2 (fun i => .int .u64 (p i : Int))) := hp3'
            have hRc : ∀ i, i < k2 → w3.cell? ⟨RB, i, none⟩ = some (.int .u64 (p i : Int)) := fun i hi => hR3.cell hi
            have HRC : Hid (∀ i, i < k2 → w3.cell? ⟨RB, i, none⟩ = some (.int .u64 (p i : Int))) := hRc
            have HRR3 : Hid (w3.rowIs RB 35 k2 (fun i => .int .u64 (p i : Int))) := hR3
            clear hr3 hp3 hR3 hP3 hp3' hRc lp lr
            have HP : Hid (∀ x, x < k2 → p x < 18446744073709551616) := HPP.out
            go_upto_block 4 with fail
            go_cut [11] (fun sb wc => wc = w3 ∧ ∃ z : Int, sb = .int .i64 z ∧ ((z = -1 ∧ ∀ x, x < k2 → p x / 4294967296 < q) ∨ ∃ b : Nat, z = (b : Int) ∧ Best1 k2 (fun x => p x / 4294967296) q b))
            case first =>
              go_wp2_with fail
              go_loopg [11, 12] k2 (fun g sb si wr => wr = w3 ∧ ∃ k : Nat, k + g = k2 ∧ si = .int .i64 k ∧ ((sb = .int .i64 (-1) ∧ ∀ x, x < k → p x / 4294967296 < q) ∨ ∃ b : Nat, sb = .int .i64 b ∧ Best1 k (fun x => p x / 4294967296) q b))
              case atStart => exact ⟨rfl, 0, by omega, rfl, .inl ⟨rfl, fun x hx => by omega⟩⟩
              case round =>
                obtain ⟨rfl, k, hk, rfl, hor⟩ := hrel
                have HK : Hid (k + gk = k2) := hk
                clear hk
                by_cases hkl : k < k2
                · have ck := HRC.out k hkl
                  have pk := HP.out k hkl
                  obtain ⟨u, hu⟩ : ∃ u, u = p k := ⟨_, rfl⟩
                  rw [← hu] at ck pk
                  have HU : Hid (u = p k) := hu
                  clear hu
                  rcases hor with ⟨rfl, hno⟩ | ⟨b, rfl, hb⟩
                  · have HN : Hid (∀ x, x < k → p x / 4294967296 < q) := hno
                    clear hno
                    by_cases hge : q ≤ u / 4294967296
                    · go_wp2_with fail
                      go_roundg (k2 - (k + 1))
                      case measure => have := HK.out; omega
                      case rel => exact ⟨rfl, k + 1, by omega, by go_num, .inr ⟨k, rfl, Best1.start HN.out (by rw [← HU.out]; exact hge)⟩⟩
                    · go_wp2_with fail
                      go_roundg (k2 - (k + 1))
                      case measure => have := HK.out; omega
                      case rel => exact ⟨rfl, k + 1, by omega, by go_num, .inl ⟨rfl, fun x hx => by
                        by_cases e : x = k
                        · subst e; rw [← HU.out]; omega
                        · exact HN.out x (by omega)⟩⟩
                  · have HBB : Hid (Best1 k (fun x => p x / 4294967296) q b) := hb
                    have hbk := hb.lt
                    have cb := HRC.out b (by omega)
                    have pb := HP.out b (by omega)
                    obtain ⟨v, hv⟩ : ∃ v, v = p b := ⟨_, rfl⟩
                    rw [← hv] at cb pb
                    have HV : Hid (v = p b) := hv
                    clear hv hb
                    by_cases hge : q ≤ u / 4294967296
                    · by_cases hl : u / 4294967296 < v / 4294967296
                      · go_wp2_with fail
                        go_roundg (k2 - (k + 1))
                        case measure => have := HK.out; omega
                        case rel => exact ⟨rfl, k + 1, by omega, by go_num, .inr ⟨k, rfl, HBB.out.take (by rw [← HU.out]; exact hge) (by rw [← HU.out, ← HV.out]; exact hl)⟩⟩
                      · go_wp2_with fail
                        go_roundg (k2 - (k + 1))
                        case measure => have := HK.out; omega
                        case rel => exact ⟨rfl, k + 1, by omega, by go_num, .inr ⟨b, rfl, HBB.out.keep (.inr (by rw [← HU.out, ← HV.out]; omega))⟩⟩
                    · go_wp2_with fail
                      go_roundg (k2 - (k + 1))
                      case measure => have := HK.out; omega
                      case rel => exact ⟨rfl, k + 1, by omega, by go_num, .inr ⟨b, rfl, HBB.out.keep (.inl (by rw [← HU.out]; omega))⟩⟩
                · obtain rfl : k = k2 := by have := HK.out; omega
                  rcases hor with ⟨rfl, hno⟩ | ⟨b, rfl, hb⟩
                  · have HO : Hid (∀ x, x < k → p x / 4294967296 < q) := hno
                    clear hno
                    go_wp2_with fail
                    go_meet
                    case rel => exact ⟨rfl, -1, rfl, .inl ⟨rfl, HO.out⟩⟩
                  · have HO : Hid (Best1 k (fun x => p x / 4294967296) q b) := hb
                    clear hb
                    go_wp2_with fail
                    go_meet
                    case rel => exact ⟨rfl, b, rfl, .inr ⟨b, rfl, HO.out⟩⟩
            case rest =>
              obtain ⟨rfl, z, rfl, hor⟩ := hcut
              obtain ⟨w3, rfl⟩ : ∃ w3 : World, w3 = wc := ⟨_, rfl⟩
              have HOR : Hid ((z = -1 ∧ ∀ x, x < k2 → p x / 4294967296 < q) ∨ ∃ b : Nat, z = (b : Int) ∧ Best1 k2 (fun x => p x / 4294967296) q b) := hor
              clear hor
              go_upto_if 114 with fail
              go_cut [11] (fun sb wc => (∃ mm, wc = w3.drewN mm) ∧ ∃ b : Nat, sb = .int .i64 b ∧ Picked k2 (fun x => p x / 4294967296) q b)
              case first =>
                rcases HOR.out with ⟨rfl, hno⟩ | ⟨b, rfl, hb⟩
                · have HN : Hid (∀ x, x < k2 → p x / 4294967296 < q) := hno
                  clear hno HOR
                  go_wp2_with fail
                  go_loopg [11, 14] (k2 - 1) (fun g sb si wr => (∃ mm, wr = w3.drewN mm) ∧ ∃ k b : Nat, k + g = k2 ∧ si = .int .i64 k ∧ sb = .int .i64 b ∧ Best2 k (fun x => p x / 4294967296) b)
                  case atStart => exact ⟨⟨0, rfl⟩, 1, 0, by omega, rfl, rfl, Best2.start _⟩
                  case round =>
                    obtain ⟨⟨mm, rfl⟩, k, b, hk, rfl, rfl, hb⟩ := hrel
                    have HK : Hid (k + gk = k2) := hk
                    have HBB : Hid (Best2 k (fun x => p x / 4294967296) b) := hb
                    have hbk := hb.lt
                    clear hk hb
                    by_cases hkl : k < k2
                    · have ck := HRC.out k hkl
                      have pk := HP.out k hkl
                      have cb := HRC.out b (by omega)
                      have pb := HP.out b (by omega)
                      obtain ⟨u, hu⟩ : ∃ u, u = p k := ⟨_, rfl⟩
                      rw [← hu] at ck pk
                      have HU : Hid (u = p k) := hu
                      obtain ⟨v, hv⟩ : ∃ v, v = p b := ⟨_, rfl⟩
                      rw [← hv] at cb pb
                      have HV : Hid (v = p b) := hv
                      clear hu hv
                      go_wp2_with fail
                      go_quiet (fail)
                      by_cases hl : u / 4294967296 < v / 4294967296
                      · go_wp2_with fail
                        go_roundg (k2 - (k + 1))
                        case measure => have := HK.out; omega
                        case rel => exact ⟨⟨mm + nq, by simp⟩, k + 1, k, by omega, by go_num, rfl, HBB.out.take (by rw [← HU.out, ← HV.out]; exact hl)⟩
                      · go_wp2_with fail
                        go_roundg (k2 - (k + 1))
                        case measure => have := HK.out; omega
                        case rel => exact ⟨⟨mm + nq, by simp⟩, k + 1, b, by omega, by go_num, rfl, HBB.out.keep (by rw [← HU.out, ← HV.out]; omega)⟩
                    · obtain rfl : k = k2 := by have := HK.out; omega
                      go_wp2_with fail
                      go_meet
                      case rel => exact ⟨⟨mm, rfl⟩, b, rfl, .inr ⟨HBB.out, HN.out⟩⟩
                · have HBB : Hid (Best1 k2 (fun x => p x / 4294967296) q b) := hb
                  clear hb HOR
                  go_wp2_with fail
                  go_meet
                  case rel => exact ⟨⟨0, rfl⟩, b, rfl, .inl HBB.out⟩
              case rest =>
                clear HOR
                obtain ⟨⟨mm, rfl⟩, b, rfl, hpick⟩ := hcut
                have HPK : Hid (Picked k2 (fun x => p x / 4294967296) q b) := hpick
                have hbk := hpick.lt
                have HRC4 : Hid (∀ i, i < k2 → (w3.drewN mm).cell? ⟨RB, i, none⟩ = some (.int .u64 (p i : Int))) := HRC.out
                have HP4 : Hid (Own (w3.drewN mm) PB 35 (some ⟨PB, 0, none⟩) k2 (fun i => .int .u64 (p i : Int))) := HP3.out
                have HR4 : Hid ((w3.drewN mm).rowIs RB 35 k2 (fun i => .int .u64 (p i : Int))) := HRR3.out
                have HB4 : Hid (Below NB w (w3.drewN mm)) := below_drewN HB3.out mm
                clear hpick HRC HP3 HRR3 HB3 s3
                generalize w3.drewN mm = w4 at *
                have cb := HRC4.out b hbk
                have pb := HP.out b hbk
                obtain ⟨v, hv⟩ : ∃ v, v = p b := ⟨_, rfl⟩
                rw [← hv] at cb pb
                have HV : Hid (v = p b) := hv
                clear hv
                go_upto_block 8 with fail
                go_cut [16] (fun sk wc => wc = w4 ∧ sk = .int .i64 (cnt k2 (fun x => decide (p x / 4294967296 < v / 4294967296)) : Int))
                case first =>
                  go_wp2_with fail
                  go_loopg [16, 17] k2 (fun g sk si wr => wr = w4 ∧ ∃ k : Nat, k + g = k2 ∧ si = .int .i64 k ∧ sk = .int .i64 (cnt k (fun x => decide (p x / 4294967296 < v / 4294967296)) : Int))
                  case atStart => exact ⟨rfl, 0, by omega, rfl, rfl⟩
                  case round =>
                    obtain ⟨rfl, k, hk, rfl, rfl⟩ := hrel
                    have HK : Hid (k + gk = k2) := hk
                    clear hk
                    by_cases hkl : k < k2
                    · have ck := HRC4.out k hkl
                      have pk := HP.out k hkl
                      have hcl := cnt_le k (fun x => decide (p x / 4294967296 < v / 4294967296))
                      obtain ⟨u, hu⟩ : ∃ u, u = p k := ⟨_, rfl⟩
                      rw [← hu] at ck pk
                      have HU : Hid (u = p k) := hu
                      clear hu
                      by_cases hl : u / 4294967296 < v / 4294967296
                      · have HC : Hid (cnt (k + 1) (fun x => decide (p x / 4294967296 < v / 4294967296)) = cnt k (fun x => decide (p x / 4294967296 < v / 4294967296)) + 1) := by
                          show cnt k _ + _ = _
                          rw [if_pos (show decide (p k / 4294967296 < v / 4294967296) = true by rw [← HU.out]; simpa using hl)]
                        generalize cnt k (fun x => decide (p x / 4294967296 < v / 4294967296)) = c at *
                        go_wp2_with fail
                        go_roundg (k2 - (k + 1))
                        case measure => have := HK.out; omega
                        case rel => exact ⟨rfl, k + 1, by omega, by go_num, by rw [HC.out]; go_num⟩
                      · have HC : Hid (cnt (k + 1) (fun x => decide (p x / 4294967296 < v / 4294967296)) = cnt k (fun x => decide (p x / 4294967296 < v / 4294967296))) := by
                          show cnt k _ + _ = _
                          rw [if_neg (show ¬ decide (p k / 4294967296 < v / 4294967296) = true by rw [← HU.out]; simpa using hl)]; rfl
                        generalize cnt k (fun x => decide (p x / 4294967296 < v / 4294967296)) = c at *
                        go_wp2_with fail
                        go_roundg (k2 - (k + 1))
                        case measure => have := HK.out; omega
                        case rel => exact ⟨rfl, k + 1, by omega, by go_num, by rw [HC.out]⟩
                    · obtain rfl : k = k2 := by have := HK.out; omega
                      go_wp2_with fail
                      go_meet
                      case rel => exact ⟨rfl, rfl⟩
                case rest =>
                  obtain ⟨rfl, rfl⟩ := hcut
                  obtain ⟨w4, rfl⟩ : ∃ w4 : World, w4 = wc := ⟨_, rfl⟩
                  have hKl := cnt_le k2 (fun x => decide (p x / 4294967296 < v / 4294967296))
                  go_wp2_with fail
                  refine (zz22_any w4 PB k2 k2 m m q (some ⟨PB, 0, none⟩) na p (by omega) (by omega) HP4.out HP.out HF.out hq).mono ?_
                  rintro e w5 ⟨Wb, OB, r, s, rfl, hs, hF, hW, hO, hch⟩
                  have hR := picked_first HPK.out hs hF
                  obtain ⟨o1, o2⟩ := HPK.out.order hs
                  rw [← HV.out] at hR o1 o2
                  rw [hR]
                  generalize hKK : cnt k2 (fun x => decide (p x / 4294967296 < v / 4294967296)) = KK at *
                  have cW := hW.cell o1
                  have cO := hO.cell o1
                  simp only [o2, ← HV.out] at cW cO
                  have cR : w5.cell? ⟨RB, b, none⟩ = some (.int .u64 (v : Int)) := by
                    rw [HV.out]
                    have hl := HR4.out.lt
                    exact (World.cell?_of_block (hch.block RB hl (not_Lx0 (fun _ => by simp; omega)))).trans (HR4.out.cell hbk)
                  have HB5 : Hid (Below NB w w5) := HB4.out.trans (hch.below (by have := HB4.out.size; rw [HNB.out] at this; exact this) (fun i hi => by unfold Lx0 at hi; split at hi <;> simp at hi; omega))
                  have hu16 := u16wrap v
                  clear hs hF hW hO hch hR o2 hKK hKl cb
                  go_wp2_with fail
                  go_quiet (fail)
                  go_wp2_with fail
                  go_ret
                  exact ⟨by simp, by rw [HNB.out]; exact below_drewN HB5.out _⟩

end Go.Proofs.Qxb6003649aMods
