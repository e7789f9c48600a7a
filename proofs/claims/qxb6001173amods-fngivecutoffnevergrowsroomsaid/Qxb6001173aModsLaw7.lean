/- The laws FnGiveInTimeNeverShrinksRoom and FnGiveCutOffNeverGrowsRoom: their walks. -/
import Derived.Test.Qxb6001173aModsLaw5
import Derived.Test.Qxb6001173aModsTG
import Derived.Deep.CutBlock
namespace Go.Proofs.Qxb6001173aMods
open Go.RowKit Go.Maps
set_option linter.unusedVariables false
attribute [local go_sem] cell_alloc_map frozen_alloc_map

theorem and7_fin : ∀ n : Fin 512, bits .and .i64 ((n.val : Nat) : Int) 7 = ((n.val : Nat) : Int) % 8 := by decide +kernel
theorem and7 (n : Int) (h0 : 0 ≤ n) (h1 : n < 512) : bits .and .i64 n 7 = n % 8 := by
  have h := and7_fin ⟨n.toNat, by omega⟩
  simp only [Int.toNat_of_nonneg h0] at h
  exact h

/-- What takeGiveRoom hands back. -/
def TGEnd (e : Ending) (w w' : World) (ev : Int) : Prop := ∃ b a : Int, e = .returned (.tuple #[.bool true, .int .i64 b, .int .i64 a]) ∧ (ev = 1 → b ≤ a) ∧ (ev = 2 → a ≤ b) ∧ Below w.heap.size w w'

set_option maxRecDepth 100000 in
set_option maxHeartbeats 2000000 in
theorem tg_any (w : World) (T E : Int) (a : Option Addr) (b len : Nat) (k ev : Int) (t0 : 0 ≤ T) (t1 : T ≤ 65536) (e0 : 0 ≤ E) (e1 : E ≤ 65536) (hlen : len ≤ 65536) (hcp : IsCopy w b a len) (k0 : 0 ≤ k) (k1 : k ≤ 255) (hev : ev = 1 ∨ ev = 2) :
    Calls Trym.prog 30 #[.int .i64 T, .int .i64 E, .slice a len len, .int .u8 k, .int .i64 ev] w fun e w' => TGEnd e w w' ev := by
  go_enter Trym.func30, Trym.ntmps30
  go_wp2_with fail
  refine (new_any w T E).mono ?_
  rintro e w4 ⟨rfl, hb4, hS4⟩
  have hI := inv_new t0 t1 e0 e1 hb4 hS4
  have hcp4 := hcp.later hb4
  clear hS4
  generalize w.heap.size + 3 = sb at *
  go_wp2_with fail
  refine (script_any hI a _ len len (by omega) (fun h => hcp.lt h) hcp4).mono ?_
  rintro e w5 ⟨rfl, s, ⟨bm, br, bo, hS5, hG, b0, b1, b2, b3, b4⟩, hT5, hE5, hb5⟩
  have ok := hG.ok (by omega)
  have HB5 : Hid (Below w.heap.size w w5) := hb4.trans hb5
  clear hT5 hE5 hI hcp4 hcp hb4 hb5
  go_upto_block 0 with fail
  go_cut [14, 15] (fun kv rv wc => Below w5.heap.size w5 wc ∧ (rv = .int .i64 0 ∨ ∃ m, m < 8 ∧ kv = .string (kn m) ∧ rv = .int .i64 (s.room (kb m)) ∧ 0 < s.room (kb m)))
  case first =>
    go_wp2_with fail
    go_loopg [14, 15, 16] 8 (fun gk kv rv iv wr => ∃ j : Nat, j + gk = 8 ∧ iv = .int .i64 j ∧ rv = .int .i64 0 ∧ Below w5.heap.size w5 wr)
    case atStart => exact ⟨0, by omega, rfl, rfl, Below.refl _ _⟩
    case round =>
      obtain ⟨j, hj, rfl, rfl, hbel⟩ := hrel
      by_cases hlt : j < 8
      · obtain ⟨m, hm8, hm⟩ : ∃ m : Nat, m < 8 ∧ (k + (j : Int)) % 8 = (m : Int) := ⟨((k + (j : Int)) % 8).toNat, by omega, by omega⟩
        have Hm : Hid ((k + (j : Int)) % 8 = (m : Int)) := hm
        clear hm
        go_wp2_with fail
        rw [and7 _ (by omega) (by omega), Hm.out]
        refine (keyName_any m hm8 wr).mono ?_
        rintro e w6 ⟨rfl, hb6⟩
        have hbel6 : Below w5.heap.size w5 w6 := hbel.trans (hb6.mono hbel.size)
        go_wp2_with fail
        refine (zzRoom_any (hS5.later hbel6) ok (kn m) (kn_size m)).mono ?_
        rintro e w7 ⟨rfl, hb7⟩
        rw [kn_kb]
        have hbel7 : Below w5.heap.size w5 w7 := hbel6.trans (hb7.mono hbel6.size)
        by_cases hr : 0 < s.room (kb m)
        · go_wp2
          go_meet
          case rel => exact ⟨hbel7, .inr ⟨m, hm8, rfl, rfl, hr⟩⟩
        · go_wp2
          go_roundg (gk - 1)
          case measure => omega
          case rel => exact ⟨j + 1, by omega, by go_num, rfl, hbel7⟩
      · go_wp2
        go_meet
        case rel => exact ⟨hbel, .inl rfl⟩
  case rest =>
    obtain ⟨hbc, hcs⟩ := hcut
    have HBc : Hid (Below w.heap.size w wc) := HB5.out.trans (hbc.mono b4)
    have hSc := hS5.later hbc
    have hzc := hbc.size
    clear hbc hS5 HB5
    rcases hcs with rfl | ⟨m, hm8, rfl, rfl, hr⟩
    · go_wp2
      go_ret3
      exact ⟨0, 0, rfl, fun _ => Int.le_refl _, fun _ => Int.le_refl _, HBc.out⟩
    · have Hr : Hid (0 < s.room (kb m)) := hr
      go_wp2_with fail
      refine (zzN_any hSc).mono ?_
      rintro e w6 ⟨rfl, hw6⟩
      rw [hw6]
      clear hw6 w6
      go_wp2_with fail
      refine (underways_any hSc).mono ?_
      rintro e w6 ⟨rfl, hb6⟩
      unfold undVal
      have hS6 := hSc.later hb6
      go_upto_region 17 with fail
      have hU : Nine (w6.alloc (Obj.cells #[.int .i64 (s.und (kk 0)), .int .i64 (s.und (kk 1)), .int .i64 (s.und (kk 2)), .int .i64 (s.und (kk 3)), .int .i64 (s.und (kk 4)), .int .i64 (s.und (kk 5)), .int .i64 (s.und (kk 6)), .int .i64 (s.und (kk 7)), .int .i64 (s.und (kk 8))] 33)) w6.heap.size (s.und (kk 0)) (s.und (kk 1)) (s.und (kk 2)) (s.und (kk 3)) (s.und (kk 4)) (s.und (kk 5)) (s.und (kk 6)) (s.und (kk 7)) (s.und (kk 8)) := heap_alloc_new w6 _
      have hal : Ch [] w6 (w6.alloc (Obj.cells #[.int .i64 (s.und (kk 0)), .int .i64 (s.und (kk 1)), .int .i64 (s.und (kk 2)), .int .i64 (s.und (kk 3)), .int .i64 (s.und (kk 4)), .int .i64 (s.und (kk 5)), .int .i64 (s.und (kk 6)), .int .i64 (s.und (kk 7)), .int .i64 (s.und (kk 8))] 33)) := Ch.alloc _ _ _
      generalize w6.alloc (Obj.cells #[.int .i64 (s.und (kk 0)), .int .i64 (s.und (kk 1)), .int .i64 (s.und (kk 2)), .int .i64 (s.und (kk 3)), .int .i64 (s.und (kk 4)), .int .i64 (s.und (kk 5)), .int .i64 (s.und (kk 6)), .int .i64 (s.und (kk 7)), .int .i64 (s.und (kk 8))] 33) = W6 at *
      have hSW := hS6.kept hal (by simp) (by simp) (by simp) (by simp)
      have l0 := hS6.blk.lt
      have l1 := hS6.m.lt
      have l2 := hS6.r.lt
      have l3 := hS6.o.lt
      have hUz : w.heap.size ≤ w6.heap.size := by have := hb6.size; omega
      have hWz := hal.size
      have HBW : Hid (Below w.heap.size w W6) := (HBc.out.trans (hb6.mono (by omega))).trans (hal.below hUz (by simp))
      clear hS6 hSc hb6 hal HBc
      generalize w6.heap.size = bU at *
      go_wp2_with fail
      refine (zzKeys_any hSW).mono ?_
      rintro e w7 ⟨rfl, hw7⟩
      rw [hw7]
      clear hw7 w7
      go_wp2_with fail
      refine (zzTake_any hSW ok (kn m) (kn_size m)).mono ?_
      rintro e w7 ⟨rfl, hS7, hc7⟩
      rw [kn_kb] at hS7
      have hG7 := good_take hG (kb m) ⟨m, hm8, rfl⟩ Hr.out
      have ok7 := hG7.ok (by omega)
      have hU7 := hU.later hc7 (by simp; omega)
      have hz7 := hc7.size
      have HB7 : Hid (Below w.heap.size w w7) := HBW.out.trans (hc7.below (by omega) (by simp; omega))
      clear hU hc7 HBW hSW
      go_wp2_with fail
      refine (zzGive_any hS7 ok7 (kn m) (kn_size m) _ (by rw [kn_kb]; exact take_by s (kb m)) ev (by omega)).mono ?_
      rintro e w8 ⟨rfl, br', bo', hS8, hc8, hB8⟩
      rw [kn_kb] at hS8
      have hS8' : SH w8 sb bm br' bo' (s.after (kb m) ev) := hS8
      have hU8 := hU7.later hc8 (by simp; omega)
      have hz8 := hc8.size
      have HB8 : Hid (Below w.heap.size w w8) := HB7.out.trans (hc8.below (by omega) (by simp; omega))
      obtain ⟨n1, n2, n3⟩ := after_NE s (kb m) ev
      obtain ⟨u1, u2, u3⟩ := after_by hG (kb m) ev
      have HRM : Hid ((ev = 1 → s.room (kb m) ≤ (s.after (kb m) ev).room (kb m)) ∧ (ev = 2 → (s.after (kb m) ev).room (kb m) ≤ s.room (kb m))) := after_room hG (by omega) (kb m) Hr.out ev hev
      have ok8 : (s.after (kb m) ev).Ok := by
        have g8 := good_ended hG7 (kb m) _ (take_by s (kb m)) ev
        exact Gd.ok (s := s.after (kb m) ev) g8 (by omega)
      have HN : Hid ((s.after (kb m) ev).N = s.N) := n1
      have HU : Hid (∀ x, (s.after (kb m) ev).und x = s.und x) := u1
      have HBn : Hid ((s.after (kb m) ev).bn = s.bn) := u2
      clear hS7 hS8 hU7 hc8 hB8 HB7 n1 n2 n3 u1 u2 u3 hG7 ok7
      go_upto_region 20 with fail
      go_cut [75] (fun v wc => v = .bool false ∧ Below w8.heap.size w8 wc)
      case first =>
        have hneq := und_same' (s.und (kk 0)) (s.und (kk 1)) (s.und (kk 2)) (s.und (kk 3)) (s.und (kk 4)) (s.und (kk 5)) (s.und (kk 6)) (s.und (kk 7)) (s.und (kk 8))
        obtain ⟨z0, z1, z2, z3, z4, z5, z6, z7, z8⟩ := hU8.cells
        have K1 : Hid (∀ w', Below w8.heap.size w8 w' → Calls Trym.prog 17 #[.pointer (some ⟨sb, 0, none⟩)] w' fun e w'' => e = .returned (.int .i64 s.N) ∧ w'' = w') := fun w' hb => by
          have := zzN_any (hS8'.later hb)
          rw [HN.out] at this
          exact this
        have K2 : Hid (∀ w', Below w8.heap.size w8 w' → Calls Trym.prog 20 #[.pointer (some ⟨sb, 0, none⟩)] w' fun e w'' => e = .returned (.agg #[.int .i64 (s.und (kk 0)), .int .i64 (s.und (kk 1)), .int .i64 (s.und (kk 2)), .int .i64 (s.und (kk 3)), .int .i64 (s.und (kk 4)), .int .i64 (s.und (kk 5)), .int .i64 (s.und (kk 6)), .int .i64 (s.und (kk 7)), .int .i64 (s.und (kk 8))]) ∧ Below w'.heap.size w' w'') := fun w' hb => by
          have := underways_any (hS8'.later hb)
          unfold undVal at this
          simp only [HU.out] at this
          exact this
        have K3 : Hid (∀ w', Below w8.heap.size w8 w' → Calls Trym.prog 19 #[.pointer (some ⟨sb, 0, none⟩)] w' fun e w'' => e = .returned (.int .i64 s.bn) ∧ w'' = w') := fun w' hb => by
          have := zzKeys_any (hS8'.later hb)
          rw [HBn.out] at this
          exact this
        clear HU
        generalize s.und (kk 0) = x0 at *
        generalize s.und (kk 1) = x1 at *
        generalize s.und (kk 2) = x2 at *
        generalize s.und (kk 3) = x3 at *
        generalize s.und (kk 4) = x4 at *
        generalize s.und (kk 5) = x5 at *
        generalize s.und (kk 6) = x6 at *
        generalize s.und (kk 7) = x7 at *
        generalize s.und (kk 8) = x8 at *
        have hbd : Below w8.heap.size w8 w8.drew := (Below.refl _ _).drew
        go_region_with (first | (go_at_call 17; refine (K1.out _ hbd).mono ?_; rintro e w9 ⟨rfl, rfl⟩) | (go_at_call 20; refine (K2.out _ hbd).mono ?_; rintro e w9 ⟨rfl, hb9⟩; have hb9' := hbd.trans hb9; obtain ⟨y0, y1, y2, y3, y4, y5, y6, y7, y8⟩ := ((hU8.later (Ch.drew _ []) (by simp)).later (Ch.of_below hb9 []) (by simp)).cells) | (go_at_call 19; refine (K3.out _ hb9').mono ?_; rintro e w10 ⟨rfl, hw10⟩; rw [hw10]; clear hw10))
        all_goals (go_wp2_with fail; go_meet; exact ⟨rfl, hbd.trans ‹Below w8.drew.heap.size w8.drew _›⟩)
      case rest =>
        obtain ⟨rfl, hbc⟩ := hcut
        go_wp2_with fail
        refine (zzRoom_any (hS8'.later hbc) ok8 (kn m) (kn_size m)).mono ?_
        rintro e w9 ⟨rfl, hb9⟩
        rw [kn_kb]
        go_wp2
        go_ret3
        exact ⟨_, _, rfl, HRM.out.1, HRM.out.2, (HB8.out.trans (hbc.mono HB8.out.size)).trans (hb9.mono (by have := hbc.size; have := HB8.out.size; omega))⟩
end Go.Proofs.Qxb6001173aMods
