/- Law: FnFirstAtOrAfterWrapping, positions whole. -/
import Derived.Test.Qxb6003649aModsWell
import Derived.Test.Qxb6003649aModsPos
import Derived.Test.Qxb6003649aModsLawL
namespace Go.Proofs.Qxb6003649aMods
open Go.RowKit
set_option linter.unusedVariables false

set_option maxHeartbeats 600000 in
set_option maxRecDepth 100000 in
theorem law3_wide (a0 : Option Addr) (n0 c0 : Nat) (a1 : Option Addr) (n1 c1 : Nat) (n2 c2 : Nat) (a3 : Option Addr) (n3 c3 : Nat) (a4 : Option Addr) (n4 c4 : Nat) (pl : Int) (q : Nat) (w : World) (f nr st ow : Nat → Nat) (ss : Nat → ByteArray)
    (h0 : ArgN .u32 4294967296 w a0 n0 c0 f) (h1 : ArgN .u16 65536 w a1 n1 c1 nr) (h2 : ArgN .u32 4294967296 w none n2 c2 st) (h3 : ArgN .u16 65536 w a3 n3 c3 ow) (h4 : ArgS w a4 n4 c4 ss) (hq : q < 4294967296) :
    Calls Trym.prog 3 #[.slice a0 n0 c0, .slice a1 n1 c1, .slice none n2 c2, .slice a3 n3 c3, .slice a4 n4 c4, .int .i64 pl, .int .u32 (q : Int)] w fun e w' => e = .returned (.bool true) ∧ Below w.heap.size w w' := by
  have l0 := h0.len_le
  have l1 := h1.len_le
  have l2 := h2.len_le
  have l3 := h3.len_le
  have l4 := h4.len_le
  unfold maxLen at l0 l1 l2 l3 l4
  go_enter Trym.func3, Trym.ntmps3
  go_wp2_with fail
  refine (bytes7_any w a0 a1 none a3 a4 n0 c0 n1 c1 n2 c2 n3 c3 n4 c4 pl q ss h0.len_le h1.len_le h2.len_le h3.len_le h4).mono ?_
  rintro e w' ⟨b, rfl, rfl, hall⟩
  obtain ⟨w, rfl⟩ : ∃ w : World, w = w' := ⟨_, rfl⟩
  cases b with
  | false =>
    go_wp2_with fail
    go_ret
    exact ⟨rfl, Below.refl _ _⟩
  | true =>
    by_cases t0 : 262144 < n0
    · go_wp2_with fail
      go_ret
      exact ⟨rfl, Below.refl _ _⟩
    by_cases t1 : 524288 < n1
    · go_wp2_with fail
      go_ret
      exact ⟨rfl, Below.refl _ _⟩
    by_cases t2 : 262144 < n2
    · go_wp2_with fail
      go_ret
      exact ⟨rfl, Below.refl _ _⟩
    by_cases t3 : 524288 < n3
    · go_wp2_with fail
      go_ret
      exact ⟨rfl, Below.refl _ _⟩
    by_cases t4 : 65536 < n4
    · go_wp2_with fail
      go_ret
      exact ⟨rfl, Below.refl _ _⟩
    by_cases t5 : 1048576 < n0 * 4 + n1 * 2 + n2 * 4 + n3 * 2 + n4 * 16
    · go_wp2_with fail
      go_ret
      exact ⟨rfl, Below.refl _ _⟩
    clear l0 l1 l2 l3 l4
    have HSZ : Hid (∀ k, k < n4 → (ss k).size ≤ 1048576) := hall rfl
    clear hall
    have HB : Hid (True → n0 ≤ 1048576 ∧ n1 ≤ 1048576 ∧ n2 ≤ 1048576 ∧ n3 ≤ 1048576 ∧ n4 ≤ 1048576) := fun _ => by omega
    go_upto_block 0 with fail
    go_cut [] from 21 (fun wc => wc = w)
    case first =>
      go_wp2_with fail
      go_loopw [15, 16] (fun sz si wr => wr = w ∧ ∃ z k : Nat, k ≤ n4 ∧ z ≤ 1048576 ∧ sz = .int .i64 z ∧ si = .int .i64 k) (fun _ si _ => n4 - (intOf si).toNat)
      case atStart => exact ⟨rfl, n0 * 4 + n1 * 2 + n2 * 4 + n3 * 2 + n4 * 16, 0, by omega, by omega, by go_num, rfl⟩
      case round =>
        obtain ⟨rfl, z, k, hk, hz, rfl, rfl⟩ := hrel
        by_cases hlt : k < n4
        · obtain ⟨b, off, rfl, hb, hc⟩ := h4.cells (by omega)
          have hck := hc k hlt
          have hsz := HSZ.out k hlt
          clear hc
          by_cases u2 : 1048576 < z + (ss k).size
          · go_wp2_with fail
            all_goals (go_ret; exact ⟨rfl, Below.refl _ _⟩)
          go_wp2_with fail
          go_roundw
          case rel => exact ⟨trivial, z + (ss k).size, k + 1, by omega, by omega, by go_num, by go_num⟩
          case measure => simp [intOf]; omega
        · go_wp2_with fail
          go_meet
          case rel => rfl
    case rest =>
      obtain rfl := hcut
      obtain ⟨w, rfl⟩ : ∃ w : World, w = wc := ⟨_, rfl⟩
      clear t0 t1 t2 t3 t4 t5
      go_wp2_with fail
      obtain ⟨rfl, rfl⟩ : n2 = 0 ∧ c2 = 0 := h2.nil rfl
      refine (wf_wide w a0 a1 a3 n0 c0 n1 c1 n3 c3 f h0 (HB.out trivial).1 (HB.out trivial).2.2.2.1).mono ?_
      rintro e w' ⟨b, m, rfl, rfl, hwf⟩
      cases b with
      | false =>
        go_wp2_with fail
        go_ret
        exact ⟨rfl, below_drewN (Below.refl _ _) m⟩
      | true =>
        obtain ⟨hpos, rfl, hasc⟩ := hwf rfl
        clear hwf
        have HF0 : Hid (∀ i, i < n0 → f i < 4294967296) := h0.lt
        have HF1 : Hid (∀ i, i < n1 → nr i < 65536) := h1.lt
        have hbw : Below w.heap.size w (w.drewN m) := below_drewN (Below.refl _ _) m
        have k0 := h0.rd.later hbw
        have k1 := h1.rd.later hbw
        have k2 := h2.rd.later hbw
        have k3 := h3.rd.later hbw
        have k4 := h4.rd.later hbw
        have i0 := h0.nil
        have i1 := h1.nil
        have i2 := h2.nil
        have i3 := h3.nil
        have i4 := h4.nil
        have HBW : Hid (Below w.heap.size w (w.drewN m)) := hbw
        clear h0 h1 h2 h3 h4 hbw
        generalize hwz : w.drewN m = wz at *
        have HNB : Hid (w.heap.size ≤ wz.heap.size) := HBW.out.size
        clear hwz
        go_wp2_with fail
        refine (clone9_any wz a0 n0 c0 (fun i => .int .u32 (f i : Int)) (fun _ => rfl) (HB.out trivial).1 i0 k0).mono ?_
        rintro e w1 ⟨b0, rfl, hb1, o0, j0⟩
        have k1 := k1.later hb1
        have k2 := k2.later hb1
        have k3 := k3.later hb1
        have k4 := k4.later hb1
        go_wp2_with fail
        refine (clone10_any w1 a1 n1 c1 (fun i => .int .u16 (nr i : Int)) (fun _ => rfl) (HB.out trivial).2.1 i1 k1).mono ?_
        rintro e w2 ⟨b1, rfl, hb2, o1, j1⟩
        have k2 := k2.later hb2
        have k3 := k3.later hb2
        have k4 := k4.later hb2
        have o0 := o0.after hb2
        go_wp2_with fail
        refine (clone9_any w2 none 0 0 (fun i => .int .u32 (st i : Int)) (fun _ => rfl) (by omega) (fun _ => ⟨rfl, rfl⟩) k2).mono ?_
        rintro e w3 ⟨b2, rfl, hb3, o2, j2⟩
        have k3 := k3.later hb3
        have k4 := k4.later hb3
        have o0 := o0.after hb3
        have o1 := o1.after hb3
        go_wp2_with fail
        refine (clone10_any w3 a3 n0 c3 (fun i => .int .u16 (ow i : Int)) (fun _ => rfl) (HB.out trivial).2.2.2.1 i3 k3).mono ?_
        rintro e w4 ⟨b3, rfl, hb4, o3, j3⟩
        have k4 := k4.later hb4
        have o0 := o0.after hb4
        have o1 := o1.after hb4
        have o2 := o2.after hb4
        go_wp2_with fail
        refine (clone11_any w4 a4 n4 c4 (fun i => .string (ss i)) (fun _ => rfl) (HB.out trivial).2.2.2.2 i4 k4).mono ?_
        rintro e w5 ⟨b4, rfl, hb5, o4, j4⟩
        have o0 := o0.after hb5
        have o1 := o1.after hb5
        have o2 := o2.after hb5
        have HB5 : Hid (Below w.heap.size w w5) := by
          have s1 := hb1.size
          have s2 := hb2.size
          have s3 := hb3.size
          have s4 := hb4.size
          have s0 := HNB.out
          exact ((((HBW.out.trans (hb1.mono s0)).trans (hb2.mono (by omega))).trans (hb3.mono (by omega))).trans (hb4.mono (by omega))).trans (hb5.mono (by omega))
        clear hb1 hb2 hb3 hb4 hb5 o3 o4 HBW HNB k0 k1 k2 k3 k4 i0 i1 i2 i3 i4 j0 j1 j3 j4
        obtain rfl : b2 = none := by simpa using j2
        obtain ⟨rfl, hT0⟩ := o0 hpos
        have hT0' : TRow .u32 25 w5 wz.heap.size n0 f := hT0
        have hcells : ∀ i, i < n0 → w5.cell? ((⟨wz.heap.size, 0, none⟩ : Addr).add i) = some (.int .u32 (f i : Int)) := fun i hi => by
          have hadd : (⟨wz.heap.size, 0, none⟩ : Addr).add i = ⟨wz.heap.size, i, none⟩ := by unfold Addr.add; split <;> simp_all
          rw [hadd]
          exact hT0'.cell hi
        clear o0 hT0 o1 o2
        generalize wz.heap.size = WB at *
        go_wp2_with fail
        refine (pos_wide w5 ⟨WB, 0, none⟩ n0 n0 n1 n1 b1 f (HB.out trivial).1 hcells).mono ?_
        rintro e w6 ⟨rfl, hb6, hPT⟩
        have hT6 := hT0'.of_block (hb6.block WB hT0'.lt)
        clear hT0' hcells
        have hb6s := hb6.size
        have HB6 : Hid (Below w.heap.size w w6) := HB5.out.trans (hb6.mono HB5.out.size)
        clear HB5 hb6 hb6s
        generalize w5.heap.size = PB at *
        go_upto_block 2 with fail
        go_cut [18] (fun v wc => wc = w6 ∧ ∃ r, v = .int .i64 ((if r = n0 then 0 else r : Nat) : Int) ∧ Fst n0 f q r)
        case first =>
          go_wp2_with fail
          go_loopg [18, 19] n0 (fun g' sv si wr => wr = w6 ∧ ∃ k : Nat, k + g' = n0 ∧ sv = .int .i64 0 ∧ si = .int .i64 k ∧ ∀ x, x < k → f x < q)
          case atStart => exact ⟨rfl, 0, by omega, rfl, rfl, fun x hx => by omega⟩
          case round =>
            obtain ⟨rfl, k, hk, rfl, rfl, hall⟩ := hrel
            have HA : Hid (∀ x, x < k → f x < q) := hall
            have HK : Hid (k + gk = n0) := hk
            clear hall
            by_cases hkl : k < n0
            · have hck := hPT.cell hkl
              have HG : Hid (f k = f k) := rfl
              obtain ⟨y, hy⟩ : ∃ y, y = f k := ⟨_, rfl⟩
              rw [← hy] at hck
              have HY : Hid (y = f k) := hy
              clear hy hPT HG hk
              by_cases hyq : q ≤ y
              · go_wp2_with fail
                go_meet
                case rel => exact ⟨rfl, k, by rw [if_neg (by omega)], by omega, HA.out, fun _ => by rw [← HY.out]; exact hyq⟩
              · go_wp2_with fail
                go_roundg (n0 - (k + 1))
                case measure => have := HK.out; omega
                case rel => exact ⟨rfl, k + 1, by omega, rfl, by go_num, fun x hx => by
                  by_cases e : x = k
                  · subst e; rw [← HY.out]; omega
                  · exact HA.out x (by omega)⟩
            · obtain rfl : k = n0 := by omega
              clear hPT
              go_wp2_with fail
              go_meet
              case rel => exact ⟨rfl, k, by simp, by omega, HA.out, fun h => by omega⟩
        case rest =>
          obtain ⟨rfl, r, rfl, hF⟩ := hcut
          obtain ⟨w6, rfl⟩ : ∃ w6 : World, w6 = wc := ⟨_, rfl⟩
          have HFr : Hid (Fst n0 f q r) := hF
          clear hF hPT
          generalize hrr : (if r = n0 then 0 else r : Nat) = rr
          have HRR : Hid ((if r = n0 then 0 else r : Nat) = rr) := hrr
          clear hrr
          go_wp2_with fail
          refine (zzfirst_wide w6 WB n0 n0 n1 n1 n0 n0 n4 n4 q b1 b3 b4 pl f (HB.out trivial).1 hT6 HF0.out hq hasc).mono ?_
          rintro e w7 ⟨r2, rfl, hF2, hb7⟩
          have hrr2 : r2 = r := hF2.eq HFr.out
          subst hrr2
          rw [HRR.out]
          have HB7 : Hid (Below w.heap.size w w7) := HB6.out.trans (hb7.mono HB6.out.size)
          clear hb7 hF2
          go_wp2_with fail
          go_ret
          exact ⟨rfl, HB7.out⟩

end Go.Proofs.Qxb6003649aMods
