/- Walks: zzWellFormedCircle; the bound on the lengths. -/
import Derived.Test.Qxb6003649aModsFirst
import Derived.Test.Qxb6003649aModsZz20
namespace Go.Proofs.Qxb6003649aMods
open Go.RowKit
set_option linter.unusedVariables false

set_option maxHeartbeats 2000000 in
set_option maxRecDepth 100000 in
theorem bytes7_any (w : World) (a0 a1 a2 a3 a4 : Option Addr) (n0 c0 n1 c1 n2 c2 n3 c3 n4 c4 : Nat) (pl q : Int) (s : Nat → ByteArray) (h0 : n0 ≤ maxLen) (h1 : n1 ≤ maxLen) (h2 : n2 ≤ maxLen) (h3 : n3 ≤ maxLen) (h4 : ArgS w a4 n4 c4 s) :
    Calls Trym.prog 7 #[.slice a0 n0 c0, .slice a1 n1 c1, .slice a2 n2 c2, .slice a3 n3 c3, .slice a4 n4 c4, .int .i64 pl, .int .u32 q] w fun e w' => ∃ b, e = .returned (.bool b) ∧ w' = w ∧ (b = true → ∀ k, k < n4 → (s k).size ≤ 1048576) := by
  have l4 := h4.len_le
  unfold maxLen at h0 h1 h2 h3 l4
  go_enter Trym.func7, Trym.ntmps7
  by_cases t1 : 1048576 < n0
  · go_wp2_with fail
    go_ret
    exact ⟨_, rfl, rfl, fun h => by simp at h⟩
  by_cases t2 : 1048576 < n1
  · go_wp2_with fail
    go_ret
    exact ⟨_, rfl, rfl, fun h => by simp at h⟩
  by_cases t3 : 1048576 < n0 + n1
  · go_wp2_with fail
    go_ret
    exact ⟨_, rfl, rfl, fun h => by simp at h⟩
  by_cases t4 : 1048576 < n2
  · go_wp2_with fail
    go_ret
    exact ⟨_, rfl, rfl, fun h => by simp at h⟩
  by_cases t5 : 1048576 < n0 + n1 + n2
  · go_wp2_with fail
    go_ret
    exact ⟨_, rfl, rfl, fun h => by simp at h⟩
  by_cases t6 : 1048576 < n3
  · go_wp2_with fail
    go_ret
    exact ⟨_, rfl, rfl, fun h => by simp at h⟩
  by_cases t7 : 1048576 < n0 + n1 + n2 + n3
  · go_wp2_with fail
    go_ret
    exact ⟨_, rfl, rfl, fun h => by simp at h⟩
  by_cases t8 : 1048576 < n4
  · go_wp2_with fail
    go_ret
    exact ⟨_, rfl, rfl, fun h => by simp at h⟩
  by_cases t9 : 1048576 < n0 + n1 + n2 + n3 + n4
  · go_wp2_with fail
    go_ret
    exact ⟨_, rfl, rfl, fun h => by simp at h⟩
  clear h0 h1 h2 h3 l4
  go_wp2_with fail
  go_loopw [15, 16] (fun sz si wr => wr = w ∧ ∃ z k : Nat, k ≤ n4 ∧ z ≤ 1048576 ∧ sz = .int .i64 z ∧ si = .int .i64 k ∧ ∀ x, x < k → (s x).size ≤ 1048576) (fun _ si _ => n4 - (intOf si).toNat)
  case atStart => exact ⟨rfl, n0 + n1 + n2 + n3 + n4, 0, by omega, by omega, by go_num, rfl, fun x hx => by omega⟩
  case round =>
    obtain ⟨rfl, z, k, hk, hz, rfl, rfl, hall⟩ := hrel
    have HA : Hid (∀ x, x < k → (s x).size ≤ 1048576) := hall
    clear hall
    by_cases hlt : k < n4
    · obtain ⟨b, off, rfl, hb, hc⟩ := h4.cells (by omega)
      have hck := hc k hlt
      have hsz := h4.lt k hlt
      unfold maxLen at hsz
      clear hc
      by_cases u1 : 1048576 < (s k).size
      · go_wp2_with fail
        go_ret
        exact ⟨_, rfl, rfl, fun h => by simp at h⟩
      by_cases u2 : 1048576 < z + (s k).size
      · go_wp2_with fail
        go_ret
        exact ⟨_, rfl, rfl, fun h => by simp at h⟩
      go_wp2_with fail
      go_roundw
      case rel => exact ⟨trivial, z + (s k).size, k + 1, by omega, by omega, by go_num, by go_num, fun x hx => by
        by_cases e : x = k
        · subst e; omega
        · exact HA.out x (by omega)⟩
      case measure => simp [intOf]; omega
    · go_wp2_with fail
      all_goals (go_ret; exact ⟨_, rfl, rfl, fun _ x hx => HA.out x (by omega)⟩)

theorem asc_adj {n : Nat} {f : Nat → Nat} (h : ∀ x, 1 ≤ x → x < n → f (x - 1) ≤ f x) : Asc n f := by
  intro i j hij hj
  have aux : ∀ d, i + d < n → f i ≤ f (i + d) := by
    intro d
    induction d with
    | zero => intro _; exact Nat.le_refl _
    | succ d ih =>
      intro hd
      have h1 := ih (by omega)
      have h2 := h (i + (d + 1)) (by omega) (by omega)
      rw [show i + (d + 1) - 1 = i + d by omega] at h2
      exact Nat.le_trans h1 h2
  have := aux (j - i) (by omega)
  rw [show i + (j - i) = j by omega] at this
  exact this

/-- What the test of a circle with whole positions tells. -/
def WideEnd (w : World) (n0 n3 : Nat) (f : Nat → Nat) (e : Ending) (w' : World) : Prop := ∃ b m, e = .returned (.bool b) ∧ w' = w.drewN m ∧ (b = true → 0 < n3 ∧ n0 = n3 ∧ Asc n0 f)

set_option maxHeartbeats 2000000 in
theorem wf_wide (w : World) (a0 a1 a3 : Option Addr) (n0 c0 n1 c1 n3 c3 : Nat) (f : Nat → Nat) (h0 : ArgN .u32 4294967296 w a0 n0 c0 f) (l0 : n0 ≤ 1048576) (l3 : n3 ≤ 1048576) :
    Calls Trym.prog 8 #[.slice a0 n0 c0, .slice a1 n1 c1, .slice none 0 0, .slice a3 n3 c3] w fun e w' => WideEnd w n0 n3 f e w' := by
  have hnil := fun w => Lib.run_eql_slice_nil (P := Trym.prog) w 22 25 none 0 0 0 0 Trym.underlying22
  go_enter Trym.func8, Trym.ntmps8
  by_cases t1 : n3 = 0
  · go_wp2_with fail
    go_ret
    exact ⟨_, 0, rfl, rfl, fun h => by simp at h⟩
  by_cases t2 : n0 = n3
  case neg =>
    go_wp2_with fail
    go_ret
    exact ⟨_, 0, rfl, rfl, fun h => by simp at h⟩
  case pos =>
    subst t2
    go_wp2_with fail
    go_loopw [9] (fun si wr => ∃ k m : Nat, 1 ≤ k ∧ k ≤ n0 ∧ si = .int .i64 k ∧ wr = w.drewN m ∧ ∀ x, 1 ≤ x → x < k → f (x - 1) ≤ f x) (fun si _ => n0 - (intOf si).toNat)
    case atStart => exact ⟨1, 0, by omega, by omega, rfl, rfl, fun x _ _ => by omega⟩
    case round =>
      obtain ⟨k, m, hk1, hk, rfl, rfl, hall⟩ := hrel
      have HA : Hid (∀ x, 1 ≤ x → x < k → f (x - 1) ≤ f x) := hall
      clear hall
      by_cases hlt : k < n0
      · obtain ⟨b, off, rfl, hb, hc⟩ := h0.cells (by omega)
        have hck := hc k hlt
        have hck1 := hc (k - 1) (by omega)
        have HC : Hid (f (k - 1) ≤ f k ∨ f k < f (k - 1)) := by show f (k - 1) ≤ f k ∨ f k < f (k - 1); omega
        clear hc
        obtain ⟨u, hu⟩ : ∃ u, u = f (k - 1) := ⟨_, rfl⟩
        obtain ⟨v, hv⟩ : ∃ v, v = f k := ⟨_, rfl⟩
        rw [← hu] at hck1
        rw [← hv] at hck
        have HUV : Hid (u = f (k - 1) ∧ v = f k) := ⟨hu, hv⟩
        clear hu hv
        go_wp2_with fail
        go_quiet (fail)
        by_cases hd : v < u
        · go_wp2_with fail
          go_ret
          exact ⟨_, m + nq, rfl, by simp, fun h => by simp at h⟩
        · go_wp2_with fail
          go_roundw
          case rel => exact ⟨k + 1, _, by omega, by omega, by go_num, rfl, fun x h1 h2 => by
            by_cases e : x = k
            · subst e; obtain ⟨e1, e2⟩ := HUV.out; omega
            · exact HA.out x h1 (by omega)⟩
          case measure => simp [intOf]; omega
      · go_wp2_with fail
        go_ret
        exact ⟨_, m, rfl, rfl, fun _ => ⟨by omega, rfl, asc_adj (fun x h1 h2 => HA.out x h1 (by omega))⟩⟩

theorem u64small (a : Nat) (ha : a < 4294967296) : IntKind.u64.wrap (a : Int) = (a : Int) := by simp [IntKind.wrap, IntKind.signed, IntKind.bits]; omega

/-- What the test of a circle with narrow positions tells. -/
def NarrowEnd (w : World) (n1 n2 n3 : Nat) (st nr : Nat → Nat) (e : Ending) (w' : World) : Prop := ∃ b m, e = .returned (.bool b) ∧ w' = w.drewN m ∧ (b = true → 0 < n3 ∧ n2 = 65537 ∧ n1 = n3 ∧ NWF n1 st nr)

set_option maxHeartbeats 4000000 in
set_option maxRecDepth 100000 in
theorem wf_narrow (w : World) (a0 a1 a3 : Option Addr) (x2 : Addr) (n0 c0 n1 c1 n2 c2 n3 c3 : Nat) (st nr : Nat → Nat) (h1 : ArgN .u16 65536 w a1 n1 c1 nr) (h2 : ArgN .u32 4294967296 w (some x2) n2 c2 st) (l1 : n1 ≤ 1048576) (l2 : n2 ≤ 1048576) (l3 : n3 ≤ 1048576) :
    Calls Trym.prog 8 #[.slice a0 n0 c0, .slice a1 n1 c1, .slice (some x2) n2 c2, .slice a3 n3 c3] w fun e w' => NarrowEnd w n1 n2 n3 st nr e w' := by
  have hnil := fun w => Lib.run_eql_slice_nil (P := Trym.prog) w 22 25 (some x2) n2 c2 0 0 Trym.underlying22
  go_enter Trym.func8, Trym.ntmps8
  by_cases t1 : n3 = 0
  · go_wp2_with fail
    go_ret
    exact ⟨_, 0, rfl, rfl, fun h => by simp at h⟩
  by_cases t2 : n2 = 65537
  case neg =>
    have t2' : ¬ (n2 : Int) = 65537 := by omega
    go_wp2_with fail
    go_ret
    exact ⟨_, 0, rfl, rfl, fun h => by simp at h⟩
  case pos =>
    have t2' : (n2 : Int) = 65537 := by omega
    have T2 : Hid (True → n2 = 65537) := fun _ => t2
    have t2a : 65536 < n2 := by omega
    clear t2
    by_cases t3 : n1 = n3
    case neg =>
      go_wp2_with fail
      go_ret
      exact ⟨_, 0, rfl, rfl, fun h => by simp at h⟩
    case pos =>
      subst t3
      obtain ⟨b, off, hx, hb, hc⟩ := h2.cells (by omega)
      cases hx
      have k0 := hc 0 (by omega)
      simp only [Nat.add_zero] at k0
      have kL := hc 65536 (by omega)
      have HC : Hid (∀ i, i < n2 → w.cell? ⟨b, off + i, none⟩ = some (.int .u32 (st i : Int))) := hc
      have HLT := h2.lt
      clear hc
      by_cases t4 : st 0 = 0
      case neg =>
        have t4' : ¬ (st 0 : Int) = 0 := by omega
        go_wp2_with fail
        go_ret
        exact ⟨_, 0, rfl, rfl, fun h => by simp at h⟩
      case pos =>
        have w64 := u64small (st 65536) (HLT _ (by omega))
        have w64' := u64small n1 (by omega)
        by_cases t5 : st 65536 = n1
        case neg =>
          have t5' : ¬ (st 65536 : Int) = (n1 : Int) := by omega
          go_wp2_with fail
          go_ret
          exact ⟨_, 0, rfl, rfl, fun h => by simp at h⟩
        case pos =>
          have t5' : (st 65536 : Int) = (n1 : Int) := by omega
          have T5 : Hid (True → st 65536 = n1 ∧ st 0 = 0) := fun _ => ⟨t5, t4⟩
          clear t5
          go_upto_region 16 with fail
          go_cut [10] from 13 (fun s wc => s = .int .i64 0 ∧ wc = w)
          case first =>
            go_wp2_with fail
            go_meet
            case rel => exact ⟨rfl, rfl⟩
          obtain ⟨rfl, rfl⟩ := hcut
          obtain ⟨w, rfl⟩ : ∃ w : World, w = wc := ⟨_, rfl⟩
          go_upto_block 2 with fail
          clear kL k0 w64 w64' t5' t4 t2'
          obtain ⟨K, hK⟩ : ∃ K, K = 65536 := ⟨_, rfl⟩
          rw [← hK] at t2a
          have HK : Hid (True → K = 65536) := fun _ => hK
          clear hK HLT
          go_cut [] (fun wc => (∃ m, wc = w.drewN m) ∧ ∀ h, h < K → st h ≤ st (h + 1))
          case first =>
            go_wp2_with fail
            go_loopg [10] K (fun g si wr => ∃ h m : Nat, h + g = K ∧ si = .int .i64 h ∧ wr = w.drewN m ∧ ∀ x, x < h → st x ≤ st (x + 1))
            case atStart => exact ⟨0, 0, by omega, rfl, rfl, fun x hx => by omega⟩
            case round =>
              obtain ⟨h, m, hh, rfl, rfl, hall⟩ := hrel
              have HA : Hid (∀ x, x < h → st x ≤ st (x + 1)) := hall
              have HH : Hid (h + gk = K) := hh
              clear hall hh
              by_cases hlt : h < K
              · have q0 := HC.out h (by omega)
                have q1 := HC.out (h + 1) (by omega)
                have hz : (h : Int) < 65536 := by have := HK.out trivial; omega
                have HL : Hid (True → h < K) := fun _ => hlt
                have hn2 : h + 1 < n2 := by omega
                clear hlt
                obtain ⟨u, hu⟩ : ∃ u, u = st h := ⟨_, rfl⟩
                obtain ⟨v, hv⟩ : ∃ v, v = st (h + 1) := ⟨_, rfl⟩
                rw [← hu] at q0
                rw [← hv] at q1
                have HUV : Hid (u = st h ∧ v = st (h + 1)) := ⟨hu, hv⟩
                clear hu hv
                go_wp2_with fail
                clear hz
                go_quiet (fail)
                by_cases hd : v < u
                · go_wp2_with fail
                  go_ret
                  exact ⟨_, m + nq, rfl, by simp, fun h => by simp at h⟩
                · go_wp2_with fail
                  go_roundg (K - (h + 1))
                  case measure => have := HH.out; have := HL.out trivial; omega
                  case rel => exact ⟨h + 1, m + nq, by have := HL.out trivial; omega, by go_num, by simp, fun x hx => by
                    by_cases e : x = h
                    · subst e; obtain ⟨e1, e2⟩ := HUV.out; omega
                    · exact HA.out x (by omega)⟩
              · have hz : ¬ (h : Int) < 65536 := by have := HK.out trivial; omega
                have HL : Hid (True → ¬ h < K) := fun _ => hlt
                clear hlt
                go_wp2_with fail
                go_meet
                case rel => exact ⟨⟨m, rfl⟩, fun x hx => HA.out x (by have := HL.out trivial; omega)⟩
          case rest =>
            obtain ⟨⟨m0, rfl⟩, hmono⟩ := hcut
            have HM : Hid (∀ h, h < K → st h ≤ st (h + 1)) := hmono
            have HLE : Hid (∀ h, h ≤ K → st h ≤ n1) := by
              intro h hh
              have hK := HK.out trivial
              subst hK
              have aux : ∀ d, d ≤ 65536 → st (65536 - d) ≤ n1 := by
                intro d
                induction d with
                | zero => intro _; exact Nat.le_of_eq (T5.out trivial).1
                | succ d ih =>
                  intro hd
                  have e1 := ih (by omega)
                  have e2 := hmono (65536 - (d + 1)) (by omega)
                  rw [show 65536 - (d + 1) + 1 = 65536 - d by omega] at e2
                  omega
              have := aux (65536 - h) (by omega)
              rw [show 65536 - (65536 - h) = h by omega] at this
              exact this
            clear hmono
            go_wp2_with fail
            go_loopg [11] K (fun g si wr => ∃ h m : Nat, h + g = K ∧ si = .int .i64 h ∧ wr = w.drewN m ∧ ∀ x, x < h → ∀ i, st x < i → i < st (x + 1) → nr (i - 1) ≤ nr i)
            case atStart => exact ⟨0, m0, by omega, rfl, rfl, fun x hx => by omega⟩
            case round =>
              obtain ⟨h, m, hh, rfl, rfl, hall⟩ := hrel
              have HA : Hid (∀ x, x < h → ∀ i, st x < i → i < st (x + 1) → nr (i - 1) ≤ nr i) := hall
              have HH : Hid (h + gk = K) := hh
              clear hall hh
              by_cases hlt : h < K
              · have q0 := HC.out h (by omega)
                have q1 := HC.out (h + 1) (by omega)
                have r1 := HLE.out (h + 1) (by omega)
                have r0 := HLE.out h (by omega)
                have hz : (h : Int) < 65536 := by have := HK.out trivial; omega
                have HL : Hid (True → h < K) := fun _ => hlt
                have hn2 : h + 1 < n2 := by omega
                clear hlt
                obtain ⟨u, hu⟩ : ∃ u, u = st h := ⟨_, rfl⟩
                obtain ⟨v, hv⟩ : ∃ v, v = st (h + 1) := ⟨_, rfl⟩
                rw [← hu] at q0 r0
                rw [← hv] at q1 r1
                have HUV : Hid (u = st h ∧ v = st (h + 1)) := ⟨hu, hv⟩
                clear hu hv
                go_wp2_with fail
                clear hz
                go_loopg [12] (v - (u + 1)) (fun g si wr => ∃ i m : Nat, si = .int .i64 i ∧ u + 1 ≤ i ∧ (i ≤ v ∨ i = u + 1) ∧ g = v - i ∧ wr = w.drewN m ∧ ∀ x, u < x → x < i → nr (x - 1) ≤ nr x)
                case atStart => exact ⟨u + 1, m, by go_num, by omega, by omega, rfl, rfl, fun x h1 h2 => by omega⟩
                case round =>
                  obtain ⟨i, m2, rfl, hi1, hi2, hg, rfl, hall⟩ := hrel
                  have HI : Hid (∀ x, u < x → x < i → nr (x - 1) ≤ nr x) := hall
                  have HG : Hid (gk = v - i) := hg
                  clear hall hg
                  by_cases hiv : i < v
                  · obtain ⟨b1, off1, rfl, hb1, hc1⟩ := h1.cells (by omega)
                    have z0 := hc1 i (by omega)
                    have z1 := hc1 (i - 1) (by omega)
                    clear hc1
                    obtain ⟨y0, hy0⟩ : ∃ y, y = nr i := ⟨_, rfl⟩
                    obtain ⟨y1, hy1⟩ : ∃ y, y = nr (i - 1) := ⟨_, rfl⟩
                    rw [← hy0] at z0
                    rw [← hy1] at z1
                    have HY : Hid (y0 = nr i ∧ y1 = nr (i - 1)) := ⟨hy0, hy1⟩
                    clear hy0 hy1
                    go_wp2_with fail
                    go_quiet (fail)
                    by_cases hd : y0 < y1
                    · go_wp2_with fail
                      go_ret
                      exact ⟨_, m2 + nq, rfl, by simp, fun h => by simp at h⟩
                    · go_wp2_with fail
                      go_roundg (v - (i + 1))
                      case measure => rw [HG.out]; omega
                      case rel => exact ⟨i + 1, m2 + nq, by go_num, by omega, by omega, rfl, by simp, fun x h1 h2 => by
                        by_cases e : x = i
                        · subst e; obtain ⟨e1, e2⟩ := HY.out; omega
                        · exact HI.out x h1 (by omega)⟩
                  · go_wp2_with fail
                    go_roundg (K - (h + 1))
                    case measure => have := HH.out; have := HL.out trivial; omega
                    case rel => exact ⟨h + 1, m2, by have := HL.out trivial; omega, by go_num, rfl, fun x hx i h1 h2 => by
                      by_cases e : x = h
                      · subst e; obtain ⟨e1, e2⟩ := HUV.out; exact HI.out i (by omega) (by omega)
                      · exact HA.out x (by omega) i h1 h2⟩
              · have hz : ¬ (h : Int) < 65536 := by have := HK.out trivial; omega
                have HL : Hid (True → ¬ h < K) := fun _ => hlt
                clear hlt
                go_wp2_with fail
                go_ret
                exact ⟨_, m, rfl, rfl, fun _ => ⟨by omega, T2.out trivial, rfl, (T5.out trivial).2, (T5.out trivial).1, by rw [← HK.out trivial]; exact HM.out, fun x hx => HA.out x (by have := HL.out trivial; have := HK.out trivial; omega)⟩⟩

end Go.Proofs.Qxb6003649aMods
