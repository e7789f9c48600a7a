/- Walks: zzPositions; ZZFirst. -/
import Derived.Test.Qxb6003649aModsFirst
namespace Go.Proofs.Qxb6003649aMods
open Go.RowKit
set_option linter.unusedVariables false

set_option maxHeartbeats 400000 in
theorem pos_wide (w : World) (x : Addr) (n cap n1 c1 : Nat) (na : Option Addr) (f : Nat → Nat) (hn : n ≤ 1048576) (hx : ∀ i, i < n → w.cell? (x.add i) = some (.int .u32 (f i : Int))) :
    Calls Trym.prog 12 #[.slice (some x) n cap, .slice na n1 c1, .slice none 0 0] w fun e w' => e = .returned (.slice (some ⟨w.heap.size, 0, none⟩) n n) ∧ Below w.heap.size w w' ∧ TRow .u32 25 w' w.heap.size n f := by
  have hmk := run_make_row' (P := Trym.prog) 22 25 (.int .u32 0) 4 Trym.underlying22 info25 rfl .i64 .i64 n (by omega) (by omega)
  have hnil := fun w => Lib.run_eql_slice_nil (P := Trym.prog) w 22 25 none 0 0 0 0 Trym.underlying22
  obtain ⟨w2, hcp, hb2, hr2⟩ := copy_made (P := Trym.prog) w 22 25 (.int .u32 0) x n cap (fun i => .int .u32 (f i : Int)) Trym.underlying22 size25 (fun _ => rfl) hx
  have HB : Hid (Below w.heap.size w w2 ∧ TRow .u32 25 w2 w.heap.size n f) := ⟨hb2, hr2⟩
  clear hb2 hr2
  go_enter Trym.func12, Trym.ntmps12
  go_wp2
  go_ret
  exact ⟨rfl, HB.out⟩

theorem or_pos32 (h x : Nat) (hh : h < 65536) (hx : x < 65536) : bits .or .u32 ((h : Int) * 65536) (x : Int) = ((h * 65536 + x : Nat) : Int) := by
  have h1 := u32_or_nat (h * 65536) x (by omega) (by omega)
  have e : h * 65536 ||| x = h * 65536 + x := by
    have := Nat.shiftLeft_add_eq_or_of_lt (a := h) (b := x) (i := 16) (by omega)
    rw [Nat.shiftLeft_eq] at this
    exact this.symm
  rw [e] at h1
  exact h1

set_option maxHeartbeats 2000000 in
set_option maxRecDepth 100000 in
theorem pos_narrow (w : World) (SB NB L M c1 c2 n0 c0 : Nat) (wa na : Option Addr) (st nr : Nat → Nat) (hM : 65536 < M) (hM2 : M ≤ 1048576) (hL : L ≤ 1048576) (ha : 0 < L → na = some ⟨NB, 0, none⟩) (hS : TRow .u32 25 w SB M st) (hN : 0 < L → TRow .u16 42 w NB L nr) (hnr : ∀ i, i < L → nr i < 65536) (hw : NWF L st nr) :
    Calls Trym.prog 12 #[.slice wa n0 c0, .slice na L c1, .slice (some ⟨SB, 0, none⟩) M c2] w fun e w' => e = .returned (.slice (some ⟨w.heap.size, 0, none⟩) L L) ∧ Below w.heap.size w w' ∧ ∃ g, TRow .u32 25 w' w.heap.size L g ∧ Whole st nr g ∧ ∀ i, i < L → g i < 4294967296 := by
  have hmk := run_make_row' (P := Trym.prog) 22 25 (.int .u32 0) 4 Trym.underlying22 info25 rfl .i64 .i64 L (by omega) (by omega)
  have hnil := fun w => Lib.run_eql_slice_nil (P := Trym.prog) w 22 25 (some ⟨SB, 0, none⟩) M c2 0 0 Trym.underlying22
  have HS : Hid (TRow .u32 25 w SB M st) := hS
  have HW : Hid (NWF L st nr) := hw
  have hSl := hS.lt
  have HNl : Hid (0 < L → NB < w.heap.size) := fun h => (hN h).lt
  obtain ⟨K, hK⟩ : ∃ K, K = 65536 := ⟨_, rfl⟩
  rw [← hK] at hM
  have HK : Hid (True → K = 65536) := fun _ => hK
  clear hS hw hK
  go_enter Trym.func12, Trym.ntmps12
  go_upto_block 0 with fail
  have h0 : TRow .u32 25 (w.alloc (.cells (madeCells #[.int .u32 0] L) 25)) w.heap.size L (fun _ => 0) := World.rowIs_made w (.int .u32 0) L 25
  have hb0 : Below w.heap.size w (w.alloc (.cells (madeCells #[.int .u32 0] L) 25)) := (Below.refl _ _).alloc (Nat.le_refl _) _
  generalize w.alloc (.cells (madeCells #[.int .u32 0] L) 25) = w0 at *
  clear hmk hnil
  go_cut [] (fun wc => Below w.heap.size w wc ∧ ∃ g, TRow .u32 25 wc w.heap.size L g ∧ Whole st nr g)
  case first =>
    go_wp2_with fail
    go_loopg [9] K (fun g' si wr => ∃ h : Nat, h + g' = K ∧ si = .int .i64 h ∧ Below w.heap.size w wr ∧ ∃ g, TRow .u32 25 wr w.heap.size L g ∧ ∀ a, a < h → ∀ i, st a ≤ i → i < st (a + 1) → g i = a * 65536 + nr i)
    case atStart => exact ⟨0, by omega, rfl, hb0, _, h0, fun a ha => by omega⟩
    case round =>
      clear h0 hb0
      obtain ⟨h, hh, rfl, hB, g, hT, hall⟩ := hrel
      have HH : Hid (h + gk = K) := hh
      have HR : Hid (Below w.heap.size w wr ∧ TRow .u32 25 wr w.heap.size L g ∧ ∀ a, a < h → ∀ i, st a ≤ i → i < st (a + 1) → g i = a * 65536 + nr i) := ⟨hB, hT, hall⟩
      clear hh hT hall
      by_cases hlt : h < K
      · have hz : (h : Int) < 65536 := by have := HK.out trivial; omega
        have HL : Hid (True → h < K) := fun _ => hlt
        have hn2 : h + 1 < M := by omega
        have q0 : wr.cell? ⟨SB, h, none⟩ = some (.int .u32 (st h : Int)) := (hB.cell (by exact hSl)).trans (HS.out.cell (by omega))
        have r1 := HW.out.leL (a := h + 1) (by have := HK.out trivial; omega)
        have r0 := HW.out.leL (a := h) (by have := HK.out trivial; omega)
        clear hlt hB
        obtain ⟨u, hu⟩ : ∃ u, u = st h := ⟨_, rfl⟩
        rw [← hu] at q0 r0
        have HU : Hid (u = st h) := hu
        clear hu
        obtain ⟨v, hv⟩ : ∃ v, v = st (h + 1) := ⟨_, rfl⟩
        rw [← hv] at r1
        have HV : Hid (v = st (h + 1)) := hv
        clear hv
        go_wp2_with fail
        clear hz
        go_loopg [10] (v - u) (fun g' si wr => ∃ i : Nat, si = .int .u32 i ∧ u ≤ i ∧ (i ≤ v ∨ i = u) ∧ g' = v - i ∧ Below w.heap.size w wr ∧ ∃ g, TRow .u32 25 wr w.heap.size L g ∧ (∀ a, a < h → ∀ i, st a ≤ i → i < st (a + 1) → g i = a * 65536 + nr i) ∧ ∀ x, u ≤ x → x < i → g x = h * 65536 + nr x)
        case atStart => exact ⟨u, rfl, by omega, by omega, rfl, HR.out.1, g, HR.out.2.1, HR.out.2.2, fun x h1 h2 => by omega⟩
        case round =>
          clear HR
          obtain ⟨i, rfl, hi1, hi2, hg, hB, g2, hT, hall, hin⟩ := hrel
          have HG : Hid (gk = v - i) := hg
          have HR : Hid (Below w.heap.size w wr ∧ TRow .u32 25 wr w.heap.size L g2 ∧ (∀ a, a < h → ∀ i, st a ≤ i → i < st (a + 1) → g2 i = a * 65536 + nr i) ∧ ∀ x, u ≤ x → x < i → g2 x = h * 65536 + nr x) := ⟨hB, hT, hall, hin⟩
          have q1 : wr.cell? ⟨SB, h + 1, none⟩ = some (.int .u32 (v : Int)) := by rw [HV.out]; exact (hB.cell (by exact hSl)).trans (HS.out.cell hn2)
          clear hall hin hg
          by_cases hiv : i < v
          · obtain rfl := ha (by omega)
            have z0 : wr.cell? ⟨NB, i, none⟩ = some (.int .u16 (nr i : Int)) := (hB.cell (by exact HNl.out (by omega))).trans ((hN (by omega)).cell (by omega))
            have hno := hnr i (by omega)
            have hcp := hT.cell (i := i) (by omega)
            have hfp := hT.frozen i
            have hor := or_pos32 h (nr i) (by have := HK.out trivial; have := HL.out trivial; omega) hno
            have hhz : (h : Int) < 65536 := by have := HK.out trivial; have := HL.out trivial; omega
            have HN : Hid (Below w.heap.size w (wr.setCell ⟨w.heap.size, i, none⟩ (.int .u32 ((h * 65536 + nr i : Nat) : Int))) ∧ ∃ g, TRow .u32 25 (wr.setCell ⟨w.heap.size, i, none⟩ (.int .u32 ((h * 65536 + nr i : Nat) : Int))) w.heap.size L g ∧ (∀ a, a < h → ∀ i, st a ≤ i → i < st (a + 1) → g i = a * 65536 + nr i) ∧ ∀ x, u ≤ x → x < i + 1 → g x = h * 65536 + nr x) := by
              obtain ⟨b1, b2, b3, b4⟩ := HR.out
              refine ⟨b1.setCell (by simp) _, _, b2.set i _, fun a ha x h1 h2 => ?_, fun x h1 h2 => ?_⟩
              · have e1 := HW.out.upto (a := a + 1) (b := h) (by omega) (by have := HK.out trivial; have := HL.out trivial; omega)
                rw [← HU.out] at e1
                have e2 : x ≠ i := by omega
                rw [if_neg e2]
                exact b3 a ha x h1 h2
              · by_cases e : x = i
                · rw [if_pos e, e]
                · rw [if_neg e]
                  exact b4 x h1 (by omega)
            clear hB hT HR
            obtain ⟨y, hy⟩ : ∃ y, y = nr i := ⟨_, rfl⟩
            rw [← hy] at z0 hno hor HN
            clear hy
            generalize g2 i = y2 at *
            go_wp2_with fail
            go_roundg (v - (i + 1))
            case measure => rw [HG.out]; omega
            case rel => exact ⟨i + 1, by go_num, by omega, by omega, rfl, HN.out⟩
          · have HN : Hid (Below w.heap.size w wr ∧ ∃ g, TRow .u32 25 wr w.heap.size L g ∧ ∀ a, a < h + 1 → ∀ i, st a ≤ i → i < st (a + 1) → g i = a * 65536 + nr i) := by
              obtain ⟨b1, b2, b3, b4⟩ := HR.out
              refine ⟨b1, _, b2, fun a ha x h1 h2 => ?_⟩
              by_cases e : a = h
              · subst e
                rw [← HU.out] at h1
                rw [← HV.out] at h2
                exact b4 x h1 (by omega)
              · exact b3 a (by omega) x h1 h2
            clear hB hT HR
            go_wp2_with fail
            go_roundg (K - (h + 1))
            case measure => have := HH.out; have := HL.out trivial; omega
            case rel => exact ⟨h + 1, by have := HL.out trivial; omega, by go_num, HN.out⟩
      · have hz : ¬ (h : Int) < 65536 := by have := HK.out trivial; omega
        have HL : Hid (True → ¬ h < K) := fun _ => hlt
        clear hlt hB
        go_wp2_with fail
        go_meet
        case rel => exact ⟨HR.out.1, g, HR.out.2.1, fun a ha => HR.out.2.2 a (by have := HK.out trivial; have := HL.out trivial; omega)⟩
  case rest =>
    obtain ⟨hB, g, hT, hW⟩ := hcut
    clear h0 hb0
    have HR : Hid (Below w.heap.size w wc ∧ TRow .u32 25 wc w.heap.size L g ∧ Whole st nr g) := ⟨hB, hT, hW⟩
    clear hB hT hW
    go_wp2_with fail
    go_ret
    refine ⟨rfl, HR.out.1, g, HR.out.2.1, HR.out.2.2, fun i hi => ?_⟩
    obtain ⟨a, a1, a2, a3⟩ := HW.out.run hi
    have := HR.out.2.2 a a1 i a2 a3
    have := hnr i hi
    omega

set_option maxHeartbeats 1000000 in
theorem zzfirst_wide (w : World) (b n c0 n1 c1 n3 c3 n4 c4 q : Nat) (na oa sa : Option Addr) (pl : Int) (f : Nat → Nat) (hn : n ≤ 1048576) (hT : TRow .u32 25 w b n f) (hf : ∀ i, i < n → f i < 4294967296) (hq : q < 4294967296) (hs : Asc n f) :
    Calls Trym.prog 13 #[.slice (some ⟨b, 0, none⟩) n c0, .slice na n1 c1, .slice none 0 0, .slice oa n c3, .slice sa n4 c4, .int .i64 pl, .int .u32 (q : Int)] w fun e w' => ∃ r, e = .returned (.int .i64 ((if r = n then 0 else r : Nat) : Int)) ∧ Fst n f q r ∧ Below w.heap.size w w' := by
  go_enter Trym.func13, Trym.ntmps13
  go_wp2_with fail
  have hb : Below w.heap.size w (w.alloc (.cells #[.slice (some ⟨b, 0, none⟩) n c0, .slice na n1 c1, .slice none 0 0, .slice oa n c3, .slice sa n4 c4, .int .i64 pl] 52)) := (Below.refl _ _).alloc (Nat.le_refl _) _
  have hC : C6 (w.alloc (.cells #[.slice (some ⟨b, 0, none⟩) n c0, .slice na n1 c1, .slice none 0 0, .slice oa n c3, .slice sa n4 c4, .int .i64 pl] 52)) w.heap.size (.slice (some ⟨b, 0, none⟩) n c0) (.slice na n1 c1) (.slice none 0 0) (.slice oa n c3) (.slice sa n4 c4) (.int .i64 pl) := Deep.blk_alloc_new _ _
  generalize w.alloc (.cells #[.slice (some ⟨b, 0, none⟩) n c0, .slice na n1 c1, .slice none 0 0, .slice oa n c3, .slice sa n4 c4, .int .i64 pl] 52) = w1 at *
  have hT1 := hT.of_block (hb.block b hT.lt)
  refine (first_wide w1 w.heap.size b 0 n c0 n c3 q (some ⟨b, 0, none⟩) oa _ _ _ f hC hn (fun _ => rfl) (fun i hi => by rw [Nat.zero_add]; exact hT1.cell hi) hf hq hs).mono ?_
  rintro e w' ⟨r, rfl, hF, rfl⟩
  have HF : Hid (Fst n f q r ∧ Below w.heap.size w w') := ⟨hF, hb⟩
  clear hF hb hT hT1 hC
  generalize hrr : (if r = n then 0 else r : Nat) = rr
  have HRR : Hid ((if r = n then 0 else r : Nat) = rr) := hrr
  clear hrr
  go_wp2_with fail
  go_ret
  exact ⟨r, by rw [HRR.out]; rfl, HF.out⟩

set_option maxHeartbeats 1000000 in
theorem zzfirst_narrow (w : World) (SB NB L M n0 c0 c1 c2 c3 n4 c4 q : Nat) (wa na oa sa : Option Addr) (pl : Int) (st nr g : Nat → Nat) (hM : 65536 < M) (hM2 : M ≤ 1048576) (hL : L ≤ 1048576) (ha : 0 < L → na = some ⟨NB, 0, none⟩) (hLc : L ≤ c1) (hS : TRow .u32 25 w SB M st) (hN : 0 < L → TRow .u16 42 w NB L nr) (hnr : ∀ i, i < L → nr i < 65536) (hq : q < 4294967296) (hw : NWF L st nr) (hg : Whole st nr g) :
    Calls Trym.prog 13 #[.slice wa n0 c0, .slice na L c1, .slice (some ⟨SB, 0, none⟩) M c2, .slice oa L c3, .slice sa n4 c4, .int .i64 pl, .int .u32 (q : Int)] w fun e w' => ∃ r, e = .returned (.int .i64 ((if r = L then 0 else r : Nat) : Int)) ∧ Fst L g q r ∧ Below w.heap.size w w' := by
  have HW : Hid (NWF L st nr ∧ Whole st nr g) := ⟨hw, hg⟩
  have HM : Hid (65536 < M) := hM
  clear hw hg hM
  go_enter Trym.func13, Trym.ntmps13
  go_wp2_with fail
  have hb : Below w.heap.size w (w.alloc (.cells #[.slice wa n0 c0, .slice na L c1, .slice (some ⟨SB, 0, none⟩) M c2, .slice oa L c3, .slice sa n4 c4, .int .i64 pl] 52)) := (Below.refl _ _).alloc (Nat.le_refl _) _
  have hC : C6 (w.alloc (.cells #[.slice wa n0 c0, .slice na L c1, .slice (some ⟨SB, 0, none⟩) M c2, .slice oa L c3, .slice sa n4 c4, .int .i64 pl] 52)) w.heap.size (.slice wa n0 c0) (.slice na L c1) (.slice (some ⟨SB, 0, none⟩) M c2) (.slice oa L c3) (.slice sa n4 c4) (.int .i64 pl) := Deep.blk_alloc_new _ _
  generalize w.alloc (.cells #[.slice wa n0 c0, .slice na L c1, .slice (some ⟨SB, 0, none⟩) M c2, .slice oa L c3, .slice sa n4 c4, .int .i64 pl] 52) = w1 at *
  have hS1 := hS.of_block (hb.block SB hS.lt)
  have hN1 : 0 < L → TRow .u16 42 w1 NB L nr := fun h => (hN h).of_block (hb.block NB (hN h).lt)
  refine (first_narrow w1 w.heap.size SB NB L M c1 c2 c3 q HM.out hM2 na oa _ _ _ st nr g hC hL ha hLc hS1 hN1 hnr hq HW.out.1 HW.out.2).mono ?_
  rintro e w' ⟨r, rfl, hF, m, rfl⟩
  have HF : Hid (Fst L g q r ∧ Below w.heap.size w (w1.drewN m)) := ⟨hF, below_drewN hb m⟩
  clear hF hb hS hS1 hC hN hN1
  generalize hrr : (if r = L then 0 else r : Nat) = rr
  have HRR : Hid ((if r = L then 0 else r : Nat) = rr) := hrr
  clear hrr
  go_wp2_with fail
  go_ret
  exact ⟨r, by rw [HRR.out]; rfl, HF.out⟩

end Go.Proofs.Qxb6003649aMods
