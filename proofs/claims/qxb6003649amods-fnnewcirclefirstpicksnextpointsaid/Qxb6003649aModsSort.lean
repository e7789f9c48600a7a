/- Walk: sortPoints. -/
import Derived.Test.Qxb6003649aModsPoint
import Derived.BigRegion
import Derived.Deep.RegionHeld3
namespace Go.Proofs.Qxb6003649aMods
open Go.RowKit
set_option linter.unusedVariables false

theorem u16wrap (x : Nat) : IntKind.u16.wrap (x : Int) = ((x % 65536 : Nat) : Int) := by
  simp [IntKind.wrap, IntKind.signed, IntKind.bits]

theorem point_wrap (w : World) (q o : Nat) (hq : q < 4294967296) (ho : o < 65536) :
    Calls Trym.prog 29 #[.int .u32 (q : Int), .int .i64 (IntKind.i64.wrap (o : Int))] w fun e w' => e = .returned (.int .u64 ((q * 4294967296 + o : Nat) : Int)) ∧ w' = w := by
  have e : IntKind.i64.wrap (o : Int) = (o : Int) := by simp [IntKind.wrap, IntKind.signed, IntKind.bits]; omega
  rw [e]
  exact point_any w q o hq ho

/-- What sortPoints leaves. -/
def Sorted (w : World) (C pb ob n : Nat) (pa oa : Option Addr) (nm pl : Value) (p : Nat → Nat) (w' : World) : Prop :=
  ∃ (Wb : Nat) (s t : Nat → Nat), Stable n (fun x => p x / 4294967296) s ∧ (∀ i, i < n → t i < n) ∧ (∀ i j, i < n → j < n → t i = t j → i = j) ∧ w.heap.size ≤ Wb ∧
    CBlk w' C (.slice (some ⟨Wb, 0, none⟩) n n) (.slice oa n n) nm pl ∧ TRow .u32 25 w' Wb n (fun k => p (s k) / 4294967296) ∧ (0 < n → TRow .u16 42 w' ob n (fun k => p (s k) % 65536)) ∧
    (0 < n → TRow .u64 35 w' pb n (fun k => p (t k))) ∧ Ch (C :: Lx0 n [pb, ob]) w w'

set_option maxHeartbeats 4000000 in
set_option maxRecDepth 100000 in
theorem sort_any (w : World) (C pb ob n cap : Nat) (pa oa : Option Addr) (nm pl : Value) (p Q : Nat → Nat) (hn : n ≤ 131072) (hC : CBlk w C (.slice none 0 0) (.slice oa n n) nm pl)
    (hp : Own w pb 35 pa n (fun i => .int .u64 (p i : Int))) (ho : ∃ f : Nat → Nat, Own w ob 42 oa n (fun i => .int .u16 (f i : Int))) (hQ : ∀ x, x < n → p x < 18446744073709551616 ∧ Q x = p x / 4294967296)
    (hO : ∀ x, x < n → p x % 4294967296 = p x % 65536) (n123 : 0 < n → C ≠ pb ∧ C ≠ ob ∧ pb ≠ ob) :
    Calls Trym.prog 24 #[.pointer (some ⟨C, 0, none⟩), .slice pa n cap] w fun e w' => e = .returned (.tuple #[]) ∧ Sorted w C pb ob n pa oa nm pl p w' := by
  obtain ⟨z61, hz61⟩ : ∃ z, z = Array.replicate 6144 (Value.int .i64 0) := ⟨_, rfl⟩
  have hal : Hid ((Trym.prog.info? 61).map (fun i => i.zero.map (·.cells)) = some (some z61)) := by rw [hz61]; exact zero61
  have h0 : TRow .i64 61 (w.alloc (.cells z61 61)) w.heap.size 6144 (fun _ => 0) := by rw [hz61]; exact next_new w
  have hb0 : Below w.heap.size w (w.alloc (.cells z61 61)) := (Below.refl _ _).alloc (Nat.le_refl _) _
  have hge : decide ((131074 : Int) ≤ (n : Int)) = false := by simp; omega
  have hpl := hp.lt
  clear hz61
  go_enter Trym.func24, Trym.ntmps24
  go_upto_block 0 with (refine wpList_alloc_row rfl 61 rfl z61 hal.out ?_)
  generalize w.alloc (.cells z61 61) = w0 at h0 hb0 ⊢
  go_cut [] (fun wc => TRow .i64 61 wc w.heap.size 6144 (C1 Q n) ∧ Below w.heap.size w wc)
  case first =>
    go_wp2_with fail
    go_loopg [37] n (fun g sj wr => ∃ j : Nat, j + g = n ∧ sj = .int .i64 j ∧ TRow .i64 61 wr w.heap.size 6144 (C1 Q j) ∧ Below w.heap.size w wr)
    case atStart => exact ⟨0, by omega, rfl, h0.congr (fun i _ => rfl), hb0⟩
    case round =>
      obtain ⟨g1, hg1⟩ : ∃ g1, g1 = gk := ⟨_, rfl⟩
      obtain ⟨j, hj, rfl, hT, hB⟩ := hrel
      rw [← hg1] at hj
      have HG1 : Hid (g1 = gk) := hg1
      clear hg1
      by_cases hlt : j < n
      · obtain ⟨rfl, hpr⟩ := hp (by omega)
        have hcj : wr.cell? ⟨pb, j, none⟩ = some (.int .u64 (p j : Int)) := (hB.cell (by exact hpl (by omega))).trans (hpr.cell hlt)
        have HT : Hid (TRow .i64 61 wr w.heap.size 6144 (CM Q j 0) ∧ Below w.heap.size w wr) := ⟨hT.congr (fun i _ => (CM_zero Q j i).symm), hB⟩
        obtain ⟨hpj, hqj⟩ := hQ j hlt
        clear hT hB
        obtain ⟨wo, rfl⟩ : ∃ wo : World, wo = wr := ⟨_, rfl⟩
        go_wp2_with fail
        go_loopg [41] 3 (fun g sd wr => ∃ d : Nat, d + g = 3 ∧ sd = .int .i64 d ∧ TRow .i64 61 wr w.heap.size 6144 (CM Q j d) ∧ Below w.heap.size w wr)
        case atStart => exact ⟨0, by omega, rfl, HT.out⟩
        case round =>
          obtain ⟨d, hd, rfl, hT, hB⟩ := hrel
          by_cases hd3 : d < 3
          · rcases (by omega : d = 0 ∨ d = 1 ∨ d = 2) with rfl | rfl | rfl
            · obtain ⟨v, hv⟩ : ∃ v, v = dg 0 (Q j) := ⟨_, rfl⟩
              have hv2 : v < 2048 := by have := dg_lt 0 (Q j); omega
              have hbit := digit0 hpj hqj
              rw [← hv] at hbit
              have hcx := hT.cell (i := 0 * 2048 + v) (by omega)
              have hfx := hT.frozen (0 * 2048 + v)
              have hle := CM_le Q j 0 (0 * 2048 + v)
              have HS : Hid (TRow .i64 61 (wr.setCell ⟨w.heap.size, 0 * 2048 + v, none⟩ (.int .i64 ((CM Q j 0 (0 * 2048 + v) + 1 : Nat) : Int))) w.heap.size 6144 (CM Q j (0 + 1))) := CM_set hT hv
              have HB : Hid (Below w.heap.size w wr) := hB
              have HG : Hid (0 + gk = 3) := hd
              clear hT hB hd hv
              generalize CM Q j 0 (0 * 2048 + v) = c at *
              simp only [Nat.reduceMul, Nat.zero_add] at hcx hfx HS
              go_wp2_with fail
              go_region
              go_wp2_with fail
              go_roundg 2
              case measure => have := HG.out; omega
              case rel => exact ⟨1, by omega, by go_num, HS.out, HB.out.drew.setCell (by simp) _⟩
            · obtain ⟨v, hv⟩ : ∃ v, v = dg 1 (Q j) := ⟨_, rfl⟩
              have hv2 : v < 2048 := by have := dg_lt 1 (Q j); omega
              have hbit := digit1 hpj hqj
              rw [← hv] at hbit
              have hcx := hT.cell (i := 1 * 2048 + v) (by omega)
              have hfx := hT.frozen (1 * 2048 + v)
              have hle := CM_le Q j 1 (1 * 2048 + v)
              have HS : Hid (TRow .i64 61 (wr.setCell ⟨w.heap.size, 1 * 2048 + v, none⟩ (.int .i64 ((CM Q j 1 (1 * 2048 + v) + 1 : Nat) : Int))) w.heap.size 6144 (CM Q j (1 + 1))) := CM_set hT hv
              have HB : Hid (Below w.heap.size w wr) := hB
              have HG : Hid (1 + gk = 3) := hd
              clear hT hB hd hv
              generalize CM Q j 1 (1 * 2048 + v) = c at *
              simp only [Nat.reduceMul] at hcx hfx HS
              go_wp2_with fail
              go_region
              go_wp2_with fail
              go_roundg 1
              case measure => have := HG.out; omega
              case rel => exact ⟨2, by omega, by go_num, HS.out, HB.out.drew.setCell (by simp) _⟩
            · obtain ⟨v, hv⟩ : ∃ v, v = dg 2 (Q j) := ⟨_, rfl⟩
              have hv2 : v < 2048 := by have := dg_lt 2 (Q j); omega
              have hbit := digit2 hpj hqj
              rw [← hv] at hbit
              have hcx := hT.cell (i := 2 * 2048 + v) (by omega)
              have hfx := hT.frozen (2 * 2048 + v)
              have hle := CM_le Q j 2 (2 * 2048 + v)
              have HS : Hid (TRow .i64 61 (wr.setCell ⟨w.heap.size, 2 * 2048 + v, none⟩ (.int .i64 ((CM Q j 2 (2 * 2048 + v) + 1 : Nat) : Int))) w.heap.size 6144 (CM Q j (2 + 1))) := CM_set hT hv
              have HB : Hid (Below w.heap.size w wr) := hB
              have HG : Hid (2 + gk = 3) := hd
              clear hT hB hd hv
              generalize CM Q j 2 (2 * 2048 + v) = c at *
              simp only [Nat.reduceMul] at hcx hfx HS
              go_wp2_with fail
              go_region
              go_wp2_with fail
              go_roundg 0
              case measure => have := HG.out; omega
              case rel => exact ⟨3, by omega, by go_num, HS.out, HB.out.drew.setCell (by simp) _⟩
          · obtain rfl : d = 3 := by omega
            have HS : Hid (TRow .i64 61 wr w.heap.size 6144 (C1 Q (j + 1)) ∧ Below w.heap.size w wr) := ⟨hT.congr (fun i hi => CM_three Q j i hi), hB⟩
            clear hT hB
            go_wp2_with fail
            go_roundg (n - (j + 1))
            case measure => have := HG1.out; omega
            case rel => exact ⟨j + 1, by omega, by go_num, HS.out⟩
      · obtain rfl : j = n := by omega
        have HS : Hid (TRow .i64 61 wr w.heap.size 6144 (C1 Q j) ∧ Below w.heap.size w wr) := ⟨hT, hB⟩
        clear hT hB
        go_wp2_with fail
        go_meet
        case rel => exact HS.out
  case rest =>
    clear h0 hb0 hal
    obtain ⟨hT0, hB0⟩ := hcut
    go_upto_block 4 with fail
    go_cut [] (fun wd => TRow .i64 61 wd w.heap.size 6144 (S1 Q n) ∧ Below w.heap.size w wd)
    case first =>
      go_wp2_with fail
      go_loopg [71] 3 (fun g sd wr => ∃ d : Nat, d + g = 3 ∧ sd = .int .i64 d ∧ TRow .i64 61 wr w.heap.size 6144 (SM1 Q n (d * 2048)) ∧ Below w.heap.size w wr)
      case atStart => exact ⟨0, rfl, rfl, hT0.congr (fun i _ => (SM1_zero Q n i).symm), hB0⟩
      case round =>
        clear hT0 hB0
        obtain ⟨d, hd, rfl, hT, hB⟩ := hrel
        rcases (by omega : d = 0 ∨ d = 1 ∨ d = 2 ∨ d = 3) with rfl | rfl | rfl | rfl
        · have hT0 := hT
          obtain ⟨cs, hcs1, hcs2, hcs3⟩ := next_part (m := 0) hT (by omega)
          have HC3 : Hid (∀ j v, cs.toList[j]? = some v → wr.cell? ((⟨w.heap.size, 0, none⟩ : Addr).add j) = some v) := hcs3
          have HC2 : Hid (∀ v, v < 2048 → cs[v]? = some (.int .i64 (C1 Q n (0 * 2048 + v) : Int))) := fun v hv => by rw [hcs2 v hv, SM1_at _ _ _ _ (by omega)]
          have HI : Hid (TRow .i64 61 wr w.heap.size 6144 (SM1 Q n (0 * 2048)) ∧ Below w.heap.size w wr) := ⟨hT, hB⟩
          have HCS : Hid (cs.size = 2048) := hcs1
          have HG : Hid (0 + gk = 3) := hd
          clear hT hB hT0 hcs2 hcs3 hd hcs1
          obtain ⟨w2, rfl⟩ : ∃ wo : World, wo = wr := ⟨_, rfl⟩
          go_wp2_with (refine wpList_load_part rfl 60 (.tmp 75) rfl ⟨w.heap.size, 0, none⟩ rfl cs (.array 2048 3) HC3.out Trym.underlying60 rfl (by rw [HCS.out]; exact info60) ?_)
          go_loopg [10, 77] 2048 (fun g ss sv wr => ∃ v : Nat, v + g = 2048 ∧ sv = .int .i64 v ∧ ss = .int .i64 (ST Q n 0 v) ∧ TRow .i64 61 wr w.heap.size 6144 (SM1 Q n (0 * 2048 + v)) ∧ Below w.heap.size w wr)
          case atStart => exact ⟨0, rfl, rfl, by rw [ST_zero]; rfl, HI.out⟩
          case round =>
            obtain ⟨v, hv, rfl, rfl, hT, hB⟩ := hrel
            by_cases hv3 : v < 2048
            · have hcv := run_index_row (P := Trym.prog) 60 3 2048 .i64 cs .i64 v _ Trym.underlying60 Trym.underlying3 size3 hv3 (HC2.out v hv3)
              have hcx := hT.cell (i := 0 * 2048 + v) (by omega)
              have hfx := hT.frozen (0 * 2048 + v)
              have HS : Hid (TRow .i64 61 (wr.setCell ⟨w.heap.size, 0 * 2048 + v, none⟩ (.int .i64 ((ST Q n 0 v : Nat) : Int))) w.heap.size 6144 (SM1 Q n (0 * 2048 + (v + 1))) ∧ ST Q n 0 (v + 1) = ST Q n 0 v + C1 Q n (0 * 2048 + v)) :=
                ⟨(hT.set (0 * 2048 + v) (ST Q n 0 v)).congr (fun i _ => by rw [← S1_ST _ _ _ _ hv3]; exact SM1_step Q n (0 * 2048 + v) i), ST_succ _ _ _ _ hv3⟩
              have HB : Hid (Below w.heap.size w wr) := hB
              have HV : Hid (v + gk = 2048) := hv
              have l1 := ST_le Q n 0 v
              have l2 := C1_le Q n (0 * 2048 + v)
              clear hT hB hv
              generalize C1 Q n (0 * 2048 + v) = c at *
              generalize SM1 Q n (0 * 2048 + v) (0 * 2048 + v) = c2 at *
              generalize hst : ST Q n 0 v = st at *
              have HST : Hid (ST Q n 0 v = st) := hst
              clear hst
              simp only [Nat.reduceMul, Nat.zero_add] at hcx hfx HS
              go_wp2_with fail
              go_roundg (2048 - (v + 1))
              case measure => have := HV.out; omega
              case rel => exact ⟨v + 1, by omega, by go_num, by rw [HS.out.2]; go_num, by rw [Nat.zero_mul, Nat.zero_add]; exact HS.out.1, HB.out.setCell (by simp) _⟩
            · obtain rfl : v = 2048 := by omega
              have HS : Hid (TRow .i64 61 wr w.heap.size 6144 (SM1 Q n (1 * 2048)) ∧ Below w.heap.size w wr) := ⟨hT, hB⟩
              have l1 := ST_le Q n 0 2048
              clear hT hB
              generalize ST Q n 0 2048 = st at *
              go_wp2_with fail
              go_roundg (2)
              case measure => have := HG.out; omega
              case rel => exact ⟨1, by omega, by go_num, HS.out⟩
        · have hT0 := hT
          obtain ⟨cs, hcs1, hcs2, hcs3⟩ := next_part (m := 2048) hT (by omega)
          have HC3 : Hid (∀ j v, cs.toList[j]? = some v → wr.cell? ((⟨w.heap.size, 2048, none⟩ : Addr).add j) = some v) := hcs3
          have HC2 : Hid (∀ v, v < 2048 → cs[v]? = some (.int .i64 (C1 Q n (1 * 2048 + v) : Int))) := fun v hv => by rw [hcs2 v hv, SM1_at _ _ _ _ (by omega)]
          have HI : Hid (TRow .i64 61 wr w.heap.size 6144 (SM1 Q n (1 * 2048)) ∧ Below w.heap.size w wr) := ⟨hT, hB⟩
          have HCS : Hid (cs.size = 2048) := hcs1
          have HG : Hid (1 + gk = 3) := hd
          clear hT hB hT0 hcs2 hcs3 hd hcs1
          obtain ⟨w2, rfl⟩ : ∃ wo : World, wo = wr := ⟨_, rfl⟩
          go_wp2_with (refine wpList_load_part rfl 60 (.tmp 75) rfl ⟨w.heap.size, 2048, none⟩ rfl cs (.array 2048 3) HC3.out Trym.underlying60 rfl (by rw [HCS.out]; exact info60) ?_)
          go_loopg [10, 77] 2048 (fun g ss sv wr => ∃ v : Nat, v + g = 2048 ∧ sv = .int .i64 v ∧ ss = .int .i64 (ST Q n 1 v) ∧ TRow .i64 61 wr w.heap.size 6144 (SM1 Q n (1 * 2048 + v)) ∧ Below w.heap.size w wr)
          case atStart => exact ⟨0, rfl, rfl, by rw [ST_zero]; rfl, HI.out⟩
          case round =>
            obtain ⟨v, hv, rfl, rfl, hT, hB⟩ := hrel
            by_cases hv3 : v < 2048
            · have hcv := run_index_row (P := Trym.prog) 60 3 2048 .i64 cs .i64 v _ Trym.underlying60 Trym.underlying3 size3 hv3 (HC2.out v hv3)
              have hcx := hT.cell (i := 1 * 2048 + v) (by omega)
              have hfx := hT.frozen (1 * 2048 + v)
              have HS : Hid (TRow .i64 61 (wr.setCell ⟨w.heap.size, 1 * 2048 + v, none⟩ (.int .i64 ((ST Q n 1 v : Nat) : Int))) w.heap.size 6144 (SM1 Q n (1 * 2048 + (v + 1))) ∧ ST Q n 1 (v + 1) = ST Q n 1 v + C1 Q n (1 * 2048 + v)) :=
                ⟨(hT.set (1 * 2048 + v) (ST Q n 1 v)).congr (fun i _ => by rw [← S1_ST _ _ _ _ hv3]; exact SM1_step Q n (1 * 2048 + v) i), ST_succ _ _ _ _ hv3⟩
              have HB : Hid (Below w.heap.size w wr) := hB
              have HV : Hid (v + gk = 2048) := hv
              have l1 := ST_le Q n 1 v
              have l2 := C1_le Q n (1 * 2048 + v)
              clear hT hB hv
              generalize C1 Q n (1 * 2048 + v) = c at *
              generalize SM1 Q n (1 * 2048 + v) (1 * 2048 + v) = c2 at *
              generalize hst : ST Q n 1 v = st at *
              have HST : Hid (ST Q n 1 v = st) := hst
              clear hst
              simp only [Nat.reduceMul] at hcx hfx HS
              go_wp2_with fail
              go_roundg (2048 - (v + 1))
              case measure => have := HV.out; omega
              case rel => exact ⟨v + 1, by omega, by go_num, by rw [HS.out.2]; go_num, HS.out.1, HB.out.setCell (by simp) _⟩
            · obtain rfl : v = 2048 := by omega
              have HS : Hid (TRow .i64 61 wr w.heap.size 6144 (SM1 Q n (2 * 2048)) ∧ Below w.heap.size w wr) := ⟨hT, hB⟩
              have l1 := ST_le Q n 1 2048
              clear hT hB
              generalize ST Q n 1 2048 = st at *
              go_wp2_with fail
              go_roundg (1)
              case measure => have := HG.out; omega
              case rel => exact ⟨2, by omega, by go_num, HS.out⟩
        · have hT0 := hT
          obtain ⟨cs, hcs1, hcs2, hcs3⟩ := next_part (m := 4096) hT (by omega)
          have HC3 : Hid (∀ j v, cs.toList[j]? = some v → wr.cell? ((⟨w.heap.size, 4096, none⟩ : Addr).add j) = some v) := hcs3
          have HC2 : Hid (∀ v, v < 2048 → cs[v]? = some (.int .i64 (C1 Q n (2 * 2048 + v) : Int))) := fun v hv => by rw [hcs2 v hv, SM1_at _ _ _ _ (by omega)]
          have HI : Hid (TRow .i64 61 wr w.heap.size 6144 (SM1 Q n (2 * 2048)) ∧ Below w.heap.size w wr) := ⟨hT, hB⟩
          have HCS : Hid (cs.size = 2048) := hcs1
          have HG : Hid (2 + gk = 3) := hd
          clear hT hB hT0 hcs2 hcs3 hd hcs1
          obtain ⟨w2, rfl⟩ : ∃ wo : World, wo = wr := ⟨_, rfl⟩
          go_wp2_with (refine wpList_load_part rfl 60 (.tmp 75) rfl ⟨w.heap.size, 4096, none⟩ rfl cs (.array 2048 3) HC3.out Trym.underlying60 rfl (by rw [HCS.out]; exact info60) ?_)
          go_loopg [10, 77] 2048 (fun g ss sv wr => ∃ v : Nat, v + g = 2048 ∧ sv = .int .i64 v ∧ ss = .int .i64 (ST Q n 2 v) ∧ TRow .i64 61 wr w.heap.size 6144 (SM1 Q n (2 * 2048 + v)) ∧ Below w.heap.size w wr)
          case atStart => exact ⟨0, rfl, rfl, by rw [ST_zero]; rfl, HI.out⟩
          case round =>
            obtain ⟨v, hv, rfl, rfl, hT, hB⟩ := hrel
            by_cases hv3 : v < 2048
            · have hcv := run_index_row (P := Trym.prog) 60 3 2048 .i64 cs .i64 v _ Trym.underlying60 Trym.underlying3 size3 hv3 (HC2.out v hv3)
              have hcx := hT.cell (i := 2 * 2048 + v) (by omega)
              have hfx := hT.frozen (2 * 2048 + v)
              have HS : Hid (TRow .i64 61 (wr.setCell ⟨w.heap.size, 2 * 2048 + v, none⟩ (.int .i64 ((ST Q n 2 v : Nat) : Int))) w.heap.size 6144 (SM1 Q n (2 * 2048 + (v + 1))) ∧ ST Q n 2 (v + 1) = ST Q n 2 v + C1 Q n (2 * 2048 + v)) :=
                ⟨(hT.set (2 * 2048 + v) (ST Q n 2 v)).congr (fun i _ => by rw [← S1_ST _ _ _ _ hv3]; exact SM1_step Q n (2 * 2048 + v) i), ST_succ _ _ _ _ hv3⟩
              have HB : Hid (Below w.heap.size w wr) := hB
              have HV : Hid (v + gk = 2048) := hv
              have l1 := ST_le Q n 2 v
              have l2 := C1_le Q n (2 * 2048 + v)
              clear hT hB hv
              generalize C1 Q n (2 * 2048 + v) = c at *
              generalize SM1 Q n (2 * 2048 + v) (2 * 2048 + v) = c2 at *
              generalize hst : ST Q n 2 v = st at *
              have HST : Hid (ST Q n 2 v = st) := hst
              clear hst
              simp only [Nat.reduceMul] at hcx hfx HS
              go_wp2_with fail
              go_roundg (2048 - (v + 1))
              case measure => have := HV.out; omega
              case rel => exact ⟨v + 1, by omega, by go_num, by rw [HS.out.2]; go_num, HS.out.1, HB.out.setCell (by simp) _⟩
            · obtain rfl : v = 2048 := by omega
              have HS : Hid (TRow .i64 61 wr w.heap.size 6144 (SM1 Q n (3 * 2048)) ∧ Below w.heap.size w wr) := ⟨hT, hB⟩
              have l1 := ST_le Q n 2 2048
              clear hT hB
              generalize ST Q n 2 2048 = st at *
              go_wp2_with fail
              go_roundg (0)
              case measure => have := HG.out; omega
              case rel => exact ⟨3, by omega, by go_num, HS.out⟩
        · have HS : Hid (TRow .i64 61 wr w.heap.size 6144 (S1 Q n) ∧ Below w.heap.size w wr) := ⟨hT.congr (fun i hi => SM1_all Q n i hi), hB⟩
          clear hT hB
          go_wp2_with fail
          go_meet
          case rel => exact HS.out
    case rest =>
      obtain ⟨hT1, hB1⟩ := hcut
      clear hT0 hB0
      have hlt := hC.lt
      have hmk := run_make_row' (P := Trym.prog) 22 25 (.int .u32 0) 4 Trym.underlying22 info25 rfl .i64 .i64 n (by omega) (by omega)
      have hC1 : CBlk wc C (.slice none 0 0) (.slice oa n n) nm pl := hC.of_block (hB1.block C hlt)
      obtain ⟨k0, k2, k3, k4⟩ := hC1.cells
      have HT1 : Hid (TRow .i64 61 wc w.heap.size 6144 (S1 Q n) ∧ Below w.heap.size w wc) := ⟨hT1, hB1⟩
      clear hT1 hB1
      go_wp2_with fail
      refine wp_loop_rounds 1 ?_
      rw [rounds_succ]
      go_upto_block 10 with fail
      obtain ⟨hT1, hB1⟩ := HT1.out
      have hTN := hT1.lt
      obtain ⟨w1, hw1⟩ : ∃ w1, w1 = wc.alloc (.cells (madeCells #[.int .u32 0] n) 25) := ⟨_, rfl⟩
      have hbw1 : Below wc.heap.size wc w1 := by rw [hw1]; exact (Below.refl _ _).alloc (Nat.le_refl _) _
      have hW1 : TRow .u32 25 w1 wc.heap.size n (fun _ => 0) := by rw [hw1]; exact (World.rowIs_made wc (.int .u32 0) n 25)
      have hN1 : TRow .i64 61 w1 w.heap.size 6144 (S1 Q n) := hT1.of_block (hbw1.block _ hTN)
      rw [← hw1]
      clear hw1
      have hC2 : CBlk w1 C (.slice none 0 0) (.slice oa n n) nm pl := hC1.of_block (hbw1.block C (by omega))
      have hBw1 : Below w.heap.size w w1 := hB1.trans (hbw1.mono hB1.size)
      have hWN : w.heap.size < wc.heap.size := hTN
      generalize wc.heap.size = Wb at *
      obtain ⟨fo, ho⟩ := ho
      have hol := ho.lt
      generalize hN : w.heap.size = N at *
      have HN : Hid (w.heap.size = N) := hN
      clear hN
      have hD0 : DW w1 N Wb ob n 0 (S1 Q n) Q (fun x => p x % 65536) 0 w1 := by
        refine ⟨⟨_, hN1, fun v hv => ?_, fun i _ _ => rfl⟩, ⟨_, hW1, fun x hx => by omega⟩, fun h0 => ⟨fo, (ho h0).2.of_block (hBw1.block ob (hol h0)), fun x hx => by omega⟩, Ch.refl _ _⟩
        exact NX_start (f := fun x => x) hv (fun i hi => hi) (fun i j _ _ e => e)
      have hDN : N ≠ Wb ∧ (0 < n → N ≠ ob ∧ Wb ≠ ob ∧ N ≠ pb ∧ Wb ≠ pb) ∧ N ≠ C ∧ Wb ≠ C := by
        refine ⟨by omega, fun h0 => ?_, by omega, by omega⟩
        have := hol h0
        have := hpl h0
        omega
      have hp1 : Own w1 pb 35 pa n (fun i => .int .u64 (p i : Int)) := hp.later hBw1 hpl
      have hsz1 := hW1.lt
      clear hC1 hT1 hB1 hbw1 HT1 hmk k0 k2 k3 k4 hW1 hN1
      go_cut [] (fun wx => DW w1 N Wb ob n 0 (S1 Q n) Q (fun x => p x % 65536) n wx)
      case first =>
        go_wp2_with fail
        go_loopg [122] n (fun g sj wr => ∃ j : Nat, j + g = n ∧ sj = .int .i64 j ∧ DW w1 N Wb ob n 0 (S1 Q n) Q (fun x => p x % 65536) j wr)
        case atStart => exact ⟨0, by omega, rfl, hD0⟩
        case round =>
          clear hD0
          obtain ⟨j, hj, rfl, hD⟩ := hrel
          by_cases hjn : j < n
          · obtain ⟨rfl, hpr⟩ := hp1 (by omega)
            obtain ⟨rfl, -⟩ := ho (by omega)
            obtain ⟨n1, n2, n3⟩ := n123 (by omega)
            have hol' := hol (by omega)
            have hpl' := hpl (by omega)
            have hcp : wr.cell? ⟨pb, j, none⟩ = some (.int .u64 (p j : Int)) := (World.cell?_of_block (hD.ch.block pb (by omega) (by have := not_Lx0 (n := n) (a := pb) (xs := [ob]) (fun _ => by simp; omega); simp [this]; omega))).trans (hpr.cell hjn)
            obtain ⟨-, -, c3, -⟩ := (hC2.of_block (hD.ch.block C (by omega) (by have := not_Lx0 (n := n) (a := C) (xs := [ob]) (fun _ => by simp; omega); simp [this]; omega))).cells
            obtain ⟨hpj, hqj⟩ := hQ j hjn
            have hrk := rank_bd (n := n) (κ := fun x => dg 0 (Q x)) hjn
            obtain ⟨cn, cf⟩ := nx_cell hD.nx hjn (by omega)
            obtain ⟨v, hv⟩ : ∃ v, v = dg 0 (Q j) := ⟨_, rfl⟩
            have hv2 : v < 2048 := by have := dg_lt 0 (Q j); omega
            have hbit := digit0 hpj hqj
            rw [← hv] at hbit cn cf
            obtain ⟨r, hr⟩ : ∃ r, r = rank n (fun x => dg 0 (Q x)) j := ⟨_, rfl⟩
            rw [← hr] at cn hrk
            obtain ⟨gw, hgw, -⟩ := hD.wide
            obtain ⟨go, hgo, -⟩ := hD.own (by omega)
            have cw := hgw.cell hrk
            have fw := hgw.frozen r
            have co := hgo.cell hrk
            have fo' := hgo.frozen r
            obtain ⟨e1, e2, e3, e4⟩ : N ≠ Wb ∧ N ≠ ob ∧ Wb ≠ ob ∧ N ≠ pb := ⟨hDN.1, (hDN.2.1 (by omega)).1, (hDN.2.1 (by omega)).2.1, (hDN.2.1 (by omega)).2.2.1⟩
            have HS : Hid (∀ m, DW w1 N Wb ob n 0 (S1 Q n) Q (fun x => p x % 65536) (j + 1) ((((wr.drewN m).setCell ⟨Wb, r, none⟩ (.int .u32 ((p j / 4294967296 : Nat) : Int))).setCell ⟨ob, r, none⟩ (.int .u16 ((p j % 65536 : Nat) : Int))).setCell ⟨N, 0 * 2048 + v, none⟩ (.int .i64 ((r + 1 : Nat) : Int)))) :=
              fun m => hD.step hjn e1 e2 e3 m hv hr hqj.symm rfl
            have HJ : Hid (j + gk = n) := hj
            clear hD hgw hgo hpr hj hr hv hqj
            generalize gw r = a1 at *
            generalize go r = a2 at *
            simp only [Nat.reduceMul, Nat.zero_add] at cn cf HS
            go_wp2_with fail
            go_region
            go_wp2_with fail
            go_roundg (n - (j + 1))
            case measure => have := HJ.out; omega
            case rel =>
              refine ⟨j + 1, by omega, by go_num, ?_⟩
              rw [u16wrap]
              exact HS.out 1
          · obtain rfl : j = n := by omega
            have HD : Hid (DW w1 N Wb ob j 0 (S1 Q j) Q (fun x => p x % 65536) j wr) := hD
            clear hD
            go_wp2_with fail
            go_meet
            case rel => exact HD.out
      case rest =>
        clear hD0
        obtain ⟨s1, hs1, hv1⟩ := deal_order Q n 0
        obtain ⟨⟨f1, hf1, hf2, hf3⟩, ⟨gw, hgw, hgw2⟩, hgo, hch1⟩ := hcut
        have hWd : TRow .u32 25 wc Wb n (fun k => Q (s1 k)) := hgw.congr (fun k hk => hv1 _ _ hgw2 k hk)
        have hOw : 0 < n → TRow .u16 42 wc ob n (fun k => p (s1 k) % 65536) := fun h0 => by
          obtain ⟨g, a1, a2⟩ := hgo h0
          exact a1.congr (fun k hk => hv1 _ _ a2 k hk)
        have hC3 : CBlk wc C (.slice none 0 0) (.slice oa n n) nm pl := hC2.of_block (hch1.block C (by omega) (by have := not_Lx0 (n := n) (a := C) (xs := [ob]) (fun h0 => by have := n123 h0; simp; omega); simp [this]; omega))
        have hp2 : 0 < n → TRow .u64 35 wc pb n p := fun h0 => (hp1 h0).2.of_block (hch1.block pb (by have := hpl h0; omega) (by have a1 := not_Lx0 (n := n) (a := pb) (xs := [ob]) (fun h0 => by have := n123 h0; simp; omega); have := hDN.2.1 h0; simp [a1]; omega))
        have hpa : 0 < n → pa = some ⟨pb, 0, none⟩ := fun h0 => (hp1 h0).1
        have hD2 : DP wc N pb n 1 (S1 Q n) (fun x => Q (s1 x)) (fun x => p (s1 x)) 0 wc := by
          refine ⟨⟨f1, hf1, fun v hv => ?_, fun i h1 h2 => hf3 i (by omega) h2⟩, fun h0 => ⟨p, hp2 h0, fun x hx => by omega⟩, Ch.refl _ _⟩
          rw [hf3 _ (by omega) (by omega)]
          exact NX_start hv hs1.lt hs1.inj
        have hsz2 : Wb < wc.heap.size := hWd.lt
        have HCH1 : Hid (Ch (N :: Wb :: Lx0 n [ob]) w1 wc) := hch1
        clear hf1 hf2 hf3 hgw hgw2 hgo hch1 hp1 hv1
        obtain ⟨w2, rfl⟩ : ∃ w2 : World, w2 = wc := ⟨_, rfl⟩
        go_upto_block 12 with fail
        go_cut [] (fun wx => DP w2 N pb n 1 (S1 Q n) (fun x => Q (s1 x)) (fun x => p (s1 x)) n wx)
        case first =>
          go_wp2_with fail
          go_loopg [157] n (fun g sj wr => ∃ j : Nat, j + g = n ∧ sj = .int .i64 j ∧ DP w2 N pb n 1 (S1 Q n) (fun x => Q (s1 x)) (fun x => p (s1 x)) j wr)
          case atStart => exact ⟨0, by omega, rfl, hD2⟩
          case round =>
            clear hD2
            obtain ⟨j, hj, rfl, hD⟩ := hrel
            by_cases hjn : j < n
            · obtain rfl := hpa (by omega)
              obtain ⟨rfl, -⟩ := ho (by omega)
              obtain ⟨n1, n2, n3⟩ := n123 (by omega)
              have hol' := hol (by omega)
              have hpl' := hpl (by omega)
              obtain ⟨e1, e2, e3, e4, e5⟩ : N ≠ Wb ∧ N ≠ ob ∧ Wb ≠ ob ∧ N ≠ pb ∧ Wb ≠ pb := ⟨hDN.1, (hDN.2.1 (by omega)).1, (hDN.2.1 (by omega)).2.1, (hDN.2.1 (by omega)).2.2⟩
              have cw : wr.cell? ⟨Wb, j, none⟩ = some (.int .u32 (Q (s1 j) : Int)) := (World.cell?_of_block (hD.ch.block Wb (by omega) (by have := not_Lx0 (n := n) (a := Wb) (xs := [pb]) (fun _ => by simp; omega); simp [this]; omega))).trans (hWd.cell hjn)
              have co : wr.cell? ⟨ob, j, none⟩ = some (.int .u16 ((p (s1 j) % 65536 : Nat) : Int)) := (World.cell?_of_block (hD.ch.block ob (by omega) (by have := not_Lx0 (n := n) (a := ob) (xs := [pb]) (fun _ => by simp; omega); simp [this]; omega))).trans ((hOw (by omega)).cell hjn)
              obtain ⟨-, -, c3, -⟩ := (hC3.of_block (hD.ch.block C (by omega) (by have := not_Lx0 (n := n) (a := C) (xs := [pb]) (fun _ => by simp; omega); simp [this]; omega))).cells
              have hsj := hs1.lt j hjn
              obtain ⟨hpj, hqj⟩ := hQ (s1 j) hsj
              have hoj := hO (s1 j) hsj
              have hrk := rank_bd (n := n) (κ := fun x => dg 1 (Q (s1 x))) hjn
              obtain ⟨cn, cf⟩ := nx_cell hD.nx hjn (by omega)
              obtain ⟨v, hv⟩ : ∃ v, v = dg 1 (Q (s1 j)) := ⟨_, rfl⟩
              have hv2 : v < 2048 := by have := dg_lt 1 (Q (s1 j)); omega
              have hbit : bits .and .u32 ((Q (s1 j) : Int) / 2048) 2047 = (v : Int) := by rw [hv]; exact and32 (Q (s1 j) / 2048) (by omega)
              simp only [← hv] at cn cf
              obtain ⟨r, hr⟩ : ∃ r, r = rank n (fun x => dg 1 (Q (s1 x))) j := ⟨_, rfl⟩
              rw [← hr] at cn hrk
              obtain ⟨go, hgo, -⟩ := hD.pts (by omega)
              have cp := hgo.cell hrk
              have fp := hgo.frozen r
              have HS : Hid (∀ m, DP w2 N pb n 1 (S1 Q n) (fun x => Q (s1 x)) (fun x => p (s1 x)) (j + 1) (((wr.drewN m).setCell ⟨pb, r, none⟩ (.int .u64 ((Q (s1 j) * 4294967296 + p (s1 j) % 65536 : Nat) : Int))).setCell ⟨N, 1 * 2048 + v, none⟩ (.int .i64 ((r + 1 : Nat) : Int)))) :=
                fun m => hD.step hjn e4 m hv hr (by show _ = p (s1 j); omega)
              have HJ : Hid (j + gk = n) := hj
              have hq32 : Q (s1 j) < 4294967296 := by omega
              have ho16 : p (s1 j) % 65536 < 65536 := by omega
              clear hD hgo hj hr hv hqj hoj hpj hsj
              generalize go r = a2 at *
              generalize Q (s1 j) = q at *
              generalize p (s1 j) % 65536 = o at *
              simp only [Nat.reduceMul] at cn cf HS
              go_upto_region 42 with fail
              go_cut [] (fun wy => ∃ m, wy = (wr.drewN m).setCell ⟨pb, r, none⟩ (.int .u64 ((q * 4294967296 + o : Nat) : Int)))
              case first =>
                clear hQ hO hC hC2 hC3 hWd hOw ho hp hs1 hBw1 HCH1 hDN hbit hol hpl cw hp2 hpa
                have e4' := e4.symm
                have n1' := n1.symm
                go_region_held3 (fun w' => w'.cell? ⟨N, 2048 + v, none⟩ = some (.int .i64 (r : Int)) ∧ w'.cell? ⟨C, 3, none⟩ = some (.slice (some ⟨ob, 0, none⟩) n n) ∧ w'.cell? ⟨ob, j, none⟩ = some (.int .u16 (o : Int))) (go_keep)
                  (first | (go_at_call 29; refine (point_wrap _ q o hq32 ho16).mono ?_; rintro e w' ⟨rfl, rfl⟩))
                all_goals (go_wp2_with fail; go_meet)
                case rel => exact ⟨1, rfl⟩
              case rest =>
                obtain ⟨m, rfl⟩ := hcut
                go_wp2_with fail
                go_roundg (n - (j + 1))
                case measure => have := HJ.out; omega
                case rel => exact ⟨j + 1, by omega, by go_num, HS.out m⟩
            · obtain rfl : j = n := by omega
              have HD : Hid (DP w2 N pb j 1 (S1 Q j) (fun x => Q (s1 x)) (fun x => p (s1 x)) j wr) := hD
              clear hD
              go_wp2_with fail
              go_meet
              case rel => exact HD.out
        case rest =>
          clear hD2
          obtain ⟨s2, hs2, hv2⟩ := deal_order (fun x => Q (s1 x)) n 1
          obtain ⟨⟨f2, hf1, hf2, hf3⟩, hpt, hch2⟩ := hcut
          have hp3 : 0 < n → TRow .u64 35 wc pb n (fun k => p (s1 (s2 k))) := fun h0 => by
            obtain ⟨g, a1, a2⟩ := hpt h0
            exact a1.congr (fun k hk => hv2 _ _ a2 k hk)
          have hC4 : CBlk wc C (.slice none 0 0) (.slice oa n n) nm pl := hC3.of_block (hch2.block C (by omega) (by have := not_Lx0 (n := n) (a := C) (xs := [pb]) (fun h0 => by have := n123 h0; simp; omega); simp [this]; omega))
          have hWd2 : TRow .u32 25 wc Wb n (fun k => Q (s1 k)) := hWd.of_block (hch2.block Wb (by omega) (by have := not_Lx0 (n := n) (a := Wb) (xs := [pb]) (fun h0 => by have := hDN.2.1 h0; simp; omega); simp [this]; omega))
          have hOw2 : 0 < n → TRow .u16 42 wc ob n (fun k => p (s1 k) % 65536) := fun h0 => (hOw h0).of_block (hch2.block ob (by have := hol h0; omega) (by have a1 := not_Lx0 (n := n) (a := ob) (xs := [pb]) (fun h0 => by have := n123 h0; simp; omega); have := hDN.2.1 h0; simp [a1]; omega))
          have hs12 : ∀ i j, i < n → j < n → s1 (s2 i) = s1 (s2 j) → i = j := fun i j hi hj e => hs2.inj i j hi hj (hs1.inj _ _ (hs2.lt i hi) (hs2.lt j hj) e)
          obtain ⟨w4, hw4⟩ : ∃ w4, w4 = wc.setCell ⟨C, 0, none⟩ (.slice (some ⟨Wb, 0, none⟩) n n) := ⟨_, rfl⟩
          have hC5 : CBlk w4 C (.slice (some ⟨Wb, 0, none⟩) n n) (.slice oa n n) nm pl := by rw [hw4]; exact hC4.setWide _
          have hD4 : DW w4 N Wb ob n 2 (S1 Q n) (fun x => Q (s1 (s2 x))) (fun x => p (s1 (s2 x)) % 65536) 0 w4 := by
            rw [hw4]
            refine ⟨⟨f2, hf1.other hDN.2.2.1 _, fun v hv => ?_, fun i h1 h2 => by omega⟩, ⟨_, hWd2.other hDN.2.2.2 _, fun x hx => by omega⟩, fun h0 => ⟨_, (hOw2 h0).other (by have := n123 h0; omega) _, fun x hx => by omega⟩, Ch.refl _ _⟩
            rw [hf3 _ (by omega) (by omega)]
            exact NX_start (f := fun x => s1 (s2 x)) hv (fun i hi => hs1.lt _ (hs2.lt i hi)) hs12
          have hp4 : 0 < n → TRow .u64 35 w4 pb n (fun k => p (s1 (s2 k))) := fun h0 => by rw [hw4]; exact (hp3 h0).other (by have := n123 h0; omega) _
          have hsz4 : w4.heap.size = wc.heap.size := by rw [hw4]; simp
          have hszW : Wb < w4.heap.size := by rw [hsz4]; exact hWd2.lt
          have hCH : Ch (C :: Lx0 n [pb, ob]) w w4 := by
            have a1 : Ch (C :: Lx0 n [pb, ob]) w w1 := Ch.of_below (by rw [HN.out]; exact hBw1) _
            have a2 : Ch (C :: Lx0 n [pb, ob]) w w2 := a1.andThen HCH1.out (fun i hi => by
              rw [HN.out]
              rcases List.mem_cons.1 hi with rfl | hi
              · right; omega
              · rcases List.mem_cons.1 hi with rfl | hi
                · right; omega
                · exact .inl (List.mem_cons_of_mem _ (Lx0_sub (by simp) i hi)))
            have a3 : Ch (C :: Lx0 n [pb, ob]) w wc := a2.andThen hch2 (fun i hi => by
              rw [HN.out]
              rcases List.mem_cons.1 hi with rfl | hi
              · right; omega
              · exact .inl (List.mem_cons_of_mem _ (Lx0_sub (by simp) i hi)))
            rw [hw4]
            exact a3.setCell (by simp) _
          have HCH : Hid (Ch (C :: Lx0 n [pb, ob]) w w4) := hCH
          obtain ⟨k0, k2, k3, k4⟩ := hC4.cells
          clear hCH hsz4 hf1 hf2 hf3 hpt hch2 hp3 hC4 hWd2 hOw2 hWd hOw hC3 HCH1 hp2 hBw1 hC2 hv2
          go_upto_block 14 with fail
          rw [← hw4]
          clear hw4
          go_wp2_with fail
          go_loopg [196] n (fun g sj wr => ∃ j : Nat, j + g = n ∧ sj = .int .i64 j ∧ DW w4 N Wb ob n 2 (S1 Q n) (fun x => Q (s1 (s2 x))) (fun x => p (s1 (s2 x)) % 65536) j wr)
          case atStart => exact ⟨0, by omega, rfl, hD4⟩
          case round =>
            clear hD4
            obtain ⟨j, hj, rfl, hD⟩ := hrel
            by_cases hjn : j < n
            · obtain rfl := hpa (by omega)
              obtain ⟨rfl, -⟩ := ho (by omega)
              obtain ⟨n1, n2, n3⟩ := n123 (by omega)
              have hol' := hol (by omega)
              have hpl' := hpl (by omega)
              obtain ⟨e1, e2, e3, e4, e5⟩ : N ≠ Wb ∧ N ≠ ob ∧ Wb ≠ ob ∧ N ≠ pb ∧ Wb ≠ pb := ⟨hDN.1, (hDN.2.1 (by omega)).1, (hDN.2.1 (by omega)).2.1, (hDN.2.1 (by omega)).2.2⟩
              have hcp : wr.cell? ⟨pb, j, none⟩ = some (.int .u64 (p (s1 (s2 j)) : Int)) := (World.cell?_of_block (hD.ch.block pb (by omega) (by have := not_Lx0 (n := n) (a := pb) (xs := [ob]) (fun _ => by simp; omega); simp [this]; omega))).trans ((hp4 (by omega)).cell hjn)
              obtain ⟨c0, -, c3, -⟩ := (hC5.of_block (hD.ch.block C (by omega) (by have := not_Lx0 (n := n) (a := C) (xs := [ob]) (fun _ => by simp; omega); simp [this]; omega))).cells
              have hsj := hs1.lt _ (hs2.lt j hjn)
              obtain ⟨hpj, hqj⟩ := hQ _ hsj
              have hrk := rank_bd (n := n) (κ := fun x => dg 2 (Q (s1 (s2 x)))) hjn
              obtain ⟨cn, cf⟩ := nx_cell hD.nx hjn (by omega)
              obtain ⟨v, hv⟩ : ∃ v, v = dg 2 (Q (s1 (s2 j))) := ⟨_, rfl⟩
              have hv2 : v < 2048 := by have := dg_lt 2 (Q (s1 (s2 j))); omega
              have hbit : (p (s1 (s2 j)) : Int) / 18014398509481984 = (v : Int) := by
                rw [hv, hqj]
                show ((p (s1 (s2 j)) / 18014398509481984 : Nat) : Int) = ((p (s1 (s2 j)) / 4294967296 / 4194304 % 2048 : Nat) : Int)
                rw [Nat.div_div_eq_div_mul]
                omega
              simp only [← hv] at cn cf
              obtain ⟨r, hr⟩ : ∃ r, r = rank n (fun x => dg 2 (Q (s1 (s2 x)))) j := ⟨_, rfl⟩
              rw [← hr] at cn hrk
              obtain ⟨gw, hgw, -⟩ := hD.wide
              obtain ⟨go, hgo, -⟩ := hD.own (by omega)
              have cw := hgw.cell hrk
              have fw := hgw.frozen r
              have co := hgo.cell hrk
              have fo' := hgo.frozen r
              have HS : Hid (∀ m, DW w4 N Wb ob n 2 (S1 Q n) (fun x => Q (s1 (s2 x))) (fun x => p (s1 (s2 x)) % 65536) (j + 1) ((((wr.drewN m).setCell ⟨Wb, r, none⟩ (.int .u32 ((p (s1 (s2 j)) / 4294967296 : Nat) : Int))).setCell ⟨ob, r, none⟩ (.int .u16 ((p (s1 (s2 j)) % 65536 : Nat) : Int))).setCell ⟨N, 2 * 2048 + v, none⟩ (.int .i64 ((r + 1 : Nat) : Int)))) :=
                fun m => hD.step hjn e1 e2 e3 m hv hr hqj.symm rfl
              have HJ : Hid (j + gk = n) := hj
              clear hD hgw hgo hj hr hv hqj hsj
              generalize gw r = a1 at *
              generalize go r = a2 at *
              generalize p (s1 (s2 j)) = pj at *
              simp only [Nat.reduceMul] at cn cf HS
              go_wp2_with fail
              go_region
              go_wp2_with fail
              go_roundg (n - (j + 1))
              case measure => have := HJ.out; omega
              case rel =>
                refine ⟨j + 1, by omega, by go_num, ?_⟩
                rw [u16wrap]
                exact HS.out 1
            · obtain rfl : j = n := by omega
              have HD : Hid (DW w4 N Wb ob j 2 (S1 Q j) (fun x => Q (s1 (s2 x))) (fun x => p (s1 (s2 x)) % 65536) j wr) := hD
              clear hD
              go_wp2_with fail
              refine bodyPost_ret (results_none rfl _ _ _) rfl ⟨rfl, ?_⟩
              obtain ⟨s3, hs3, hv3⟩ := deal_order (fun x => Q (s1 (s2 x))) j 2
              obtain ⟨-, ⟨gw, hgw, hgw2⟩, hgo, hch⟩ := HD.out
              refine ⟨Wb, fun k => s1 (s2 (s3 k)), fun k => s1 (s2 k), ?_, fun i hi => hs1.lt _ (hs2.lt i hi), hs12, by rw [HN.out]; omega, ?_, ?_, ?_, ?_, ?_⟩
              · refine deals (d0 := fun x => dg 0 (Q x)) (d1 := fun x => dg 1 (Q x)) (d2 := fun x => dg 2 (Q x)) (fun x hx => ?_) (fun x _ => dg_lt _ _) (fun x _ => dg_lt _ _) hs1 hs2 hs3
                obtain ⟨a1, a2⟩ := hQ x hx
                show p x / 4294967296 = (Q x / 4194304 % 2048) * 4194304 + (Q x / 2048 % 2048) * 2048 + Q x % 2048
                omega
              · exact hC5.of_block (hch.block C (by omega) (by have := not_Lx0 (n := j) (a := C) (xs := [ob]) (fun h0 => by have := n123 h0; simp; omega); simp [this]; omega))
              · exact hgw.congr (fun k hk => by rw [hv3 _ _ hgw2 k hk]; exact (hQ _ (hs1.lt _ (hs2.lt _ (hs3.lt k hk)))).2)
              · intro h0
                obtain ⟨g, b1, b2⟩ := hgo h0
                exact b1.congr (fun k hk => hv3 _ _ b2 k hk)
              · intro h0
                exact (hp4 h0).of_block (hch.block pb (by have := hpl h0; omega) (by have a1 := not_Lx0 (n := j) (a := pb) (xs := [ob]) (fun h0 => by have := n123 h0; simp; omega); have := hDN.2.1 h0; simp [a1]; omega))
              · refine HCH.out.andThen hch (fun i hi => ?_)
                rw [HN.out]
                rcases List.mem_cons.1 hi with rfl | hi
                · right; omega
                · rcases List.mem_cons.1 hi with rfl | hi
                  · right; omega
                  · exact .inl (List.mem_cons_of_mem _ (Lx0_sub (by simp) i hi))
end Go.Proofs.Qxb6003649aMods
