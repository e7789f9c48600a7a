/- The law FnClaimStaysWithinRoom: its walk. -/
import Derived.Test.Qxb6001173aModsW9
import Derived.Test.Qxb6001173aModsW10
import Derived.Deep.RegionWith
namespace Go.Proofs.Qxb6001173aMods
open Go.RowKit Go.Maps
set_option linter.unusedVariables false
attribute [local go_sem] cell_alloc_map frozen_alloc_map

theorem roomP_free {free share E n win : Int} (h0 : 0 ≤ free) (h1 : 0 ≤ share) : roomP free share E n win ≤ free := by
  unfold roomP
  split <;> omega
theorem roomP_each {free share E n win : Int} (h0 : n ≤ E) : n + roomP free share E n win ≤ E := by
  unfold roomP
  omega

theorem first_facts {s : St} (ok : s.Ok) : 0 ≤ s.first ∧ s.first ≤ s.E ∧ s.first ≤ s.limit ∧ s.limit ≤ s.free := by
  have h1 := (roomP_bd (free := s.free) (share := s.share 0) (win := 0) ok.E1 (n := 0) (by omega)).1
  have h2 := roomP_each (free := s.free) (share := s.share 0) (win := 0) (n := 0) ok.E0
  have h3 := roomP_free (E := s.E) (n := 0) (win := 0) (free_bd ok).1 (share_bd ok 0).1
  have e : s.first = roomP s.free (s.share 0) s.E 0 0 := rfl
  rw [← e] at h1 h2 h3
  unfold St.limit
  split <;> omega

theorem croom_facts {s : St} (ok : s.Ok) (l : Ld) (h0 : 0 ≤ l.u) (h1 : l.u ≤ s.E) : 0 ≤ s.croom l ∧ s.croom l ≤ s.roomW l.u l.w ∧ l.u + s.croom l ≤ s.E ∧ s.croom l ≤ s.free := by
  have g1 := (roomP_bd (free := s.free) (share := s.share l.u) (win := l.w) ok.E1 h0).1
  have g2 := roomP_each (free := s.free) (share := s.share l.u) (win := l.w) h1
  have g3 := roomP_free (E := s.E) (n := l.u) (win := l.w) (free_bd ok).1 (share_bd ok l.u).1
  have e : s.roomW l.u l.w = roomP s.free (s.share l.u) s.E l.u l.w := rfl
  rw [← e] at g1 g2 g3
  unfold St.croom
  split <;> omega

/-- How many of keyAt's first k keys are under way. -/
def busyN (s : St) (k : Nat) : Nat := (((List.range k).map kk).filter (fun x => (s.by_ x).isSome)).length

theorem busyN_succ (s : St) (k : Nat) : busyN s (k + 1) = busyN s k + if (s.by_ (kk k)).isSome then 1 else 0 := by
  unfold busyN
  rw [List.range_succ, List.map_append, List.filter_append, List.length_append]
  simp only [List.map_cons, List.map_nil, List.filter_cons, List.filter_nil]
  split <;> rfl

theorem kk_nodup : ((List.range 9).map kk).Nodup := by decide

theorem kk_kb {i : Nat} (h : i < 8) : kk i = kb i := by
  unfold kk ka
  rw [if_neg (by omega)]
  rfl

theorem busyN_all {w : World} {b : Nat} {s : St} {c : Nat} (hG : Good s c) (hM : MapV w b Ld.val s.by_ s.bn) : busyN s 9 = s.bn := by
  obtain ⟨ks, n1, l1, m1⟩ := hM.keys
  rw [← l1]
  unfold busyN
  refine List.Perm.length_eq ((List.perm_ext_iff_of_nodup (kk_nodup.filter _) n1).2 (fun k => ?_))
  rw [List.mem_filter, m1]
  constructor
  · exact fun h => h.2
  · intro h
    refine ⟨?_, h⟩
    obtain ⟨l, hl⟩ := Option.isSome_iff_exists.1 h
    obtain ⟨i, hi, rfl⟩ := (hG.by_ k l hl).1
    rw [← kk_kb hi]
    exact List.mem_map.2 ⟨i, List.mem_range.2 (by omega), rfl⟩
theorem busyN_le (s : St) (k : Nat) : busyN s k ≤ k := by
  unfold busyN
  have := List.length_filter_le (fun x => (s.by_ x).isSome) ((List.range k).map kk)
  simpa using this

/-- The nine cells of such an array. -/
def Nine (w : World) (b : Nat) (x0 x1 x2 x3 x4 x5 x6 x7 x8 : Int) : Prop := w.heap[b]? = some (.cells #[.int .i64 x0, .int .i64 x1, .int .i64 x2, .int .i64 x3, .int .i64 x4, .int .i64 x5, .int .i64 x6, .int .i64 x7, .int .i64 x8] 33 (0, 0))

theorem Nine.cells {w : World} {b : Nat} {x0 x1 x2 x3 x4 x5 x6 x7 x8 : Int} (h : Nine w b x0 x1 x2 x3 x4 x5 x6 x7 x8) :
    w.cell? ⟨b, 0, none⟩ = some (.int .i64 x0) ∧ w.cell? ⟨b, 1, none⟩ = some (.int .i64 x1) ∧ w.cell? ⟨b, 2, none⟩ = some (.int .i64 x2) ∧ w.cell? ⟨b, 3, none⟩ = some (.int .i64 x3) ∧ w.cell? ⟨b, 4, none⟩ = some (.int .i64 x4) ∧
    w.cell? ⟨b, 5, none⟩ = some (.int .i64 x5) ∧ w.cell? ⟨b, 6, none⟩ = some (.int .i64 x6) ∧ w.cell? ⟨b, 7, none⟩ = some (.int .i64 x7) ∧ w.cell? ⟨b, 8, none⟩ = some (.int .i64 x8) :=
  ⟨cell_of_row h 0, cell_of_row h 1, cell_of_row h 2, cell_of_row h 3, cell_of_row h 4, cell_of_row h 5, cell_of_row h 6, cell_of_row h 7, cell_of_row h 8⟩

theorem Nine.later {w w' : World} {b : Nat} {x0 x1 x2 x3 x4 x5 x6 x7 x8 : Int} (h : Nine w b x0 x1 x2 x3 x4 x5 x6 x7 x8) {S : List Nat} (hc : Ch S w w') (hb : b ∉ S) : Nine w' b x0 x1 x2 x3 x4 x5 x6 x7 x8 :=
  (hc.block _ (Array.getElem?_eq_some_iff.1 h).1 hb).trans h

theorem Nine.row {w : World} {b : Nat} {f : Nat → Int} (h : Nine w b (f 0) (f 1) (f 2) (f 3) (f 4) (f 5) (f 6) (f 7) (f 8)) : w.rowIs b 33 9 (fun j => .int .i64 (f j)) := by
  refine ⟨_, h, rfl, fun i hi => ?_⟩
  rcases (show i = 0 ∨ i = 1 ∨ i = 2 ∨ i = 3 ∨ i = 4 ∨ i = 5 ∨ i = 6 ∨ i = 7 ∨ i = 8 by omega) with rfl | rfl | rfl | rfl | rfl | rfl | rfl | rfl | rfl <;> rfl

theorem und_same' (x0 x1 x2 x3 x4 x5 x6 x7 x8 : Int) (w : World) :
    (binOp .neq 33 (.agg #[.int .i64 x0, .int .i64 x1, .int .i64 x2, .int .i64 x3, .int .i64 x4, .int .i64 x5, .int .i64 x6, .int .i64 x7, .int .i64 x8]) (.agg #[.int .i64 x0, .int .i64 x1, .int .i64 x2, .int .i64 x3, .int .i64 x4, .int .i64 x5, .int .i64 x6, .int .i64 x7, .int .i64 x8])).run Trym.prog w = .ok (.bool false) w := by
  obtain ⟨i, hi⟩ := info3
  rw [run_neq_struct, run_equalIn_array w 9999 _ _ Trym.underlying33 hi, cells3, eqItems_same w 9998 _ (List.range 9)]
  · rfl
  · intro j hj
    have hj' : j < 9 := List.mem_range.1 hj
    rcases (show j = 0 ∨ j = 1 ∨ j = 2 ∨ j = 3 ∨ j = 4 ∨ j = 5 ∨ j = 6 ∨ j = 7 ∨ j = 8 by omega) with rfl | rfl | rfl | rfl | rfl | rfl | rfl | rfl | rfl <;> exact ⟨_, rfl⟩

set_option maxRecDepth 100000 in
set_option maxHeartbeats 2000000 in
theorem law5 (T E : Int) (a : Option Addr) (len cap : Nat) (zs : List Int) (w : World) (hr : IsRow .u8 w a len cap zs) :
    Calls Trym.prog 5 #[.int .i64 T, .int .i64 E, .slice a len cap] w fun e w' => e = .returned (.bool true) ∧ Below w.heap.size w w' := by
  have HR : Hid (IsRow .u8 w a len cap zs) := hr
  have hlm : len ≤ maxLen := by
    rcases hr with ⟨_, rfl, _⟩ | ⟨x, _, h1, h2, _⟩
    · omega
    · omega
  unfold maxLen at hlm
  clear hr
  go_enter Trym.func5, Trym.ntmps5
  go_wp2_with fail
  by_cases h1 : 1048576 < len
  · refine (zz24_no T E a len cap w h1).mono ?_
    rintro e w' ⟨rfl, rfl⟩
    go_wp2
    go_ret
    exact ⟨rfl, Below.refl _ _⟩
  · refine (zz24_yes T E a len cap w (by omega)).mono ?_
    rintro e w' ⟨rfl, rfl⟩
    by_cases h2 : 65536 < len
    · go_wp2
      go_ret
      exact ⟨rfl, Below.refl _ _⟩
    · go_wp2_with fail
      by_cases h3 : T < 0 ∨ 65536 < T ∨ E < 0 ∨ 65536 < E
      · refine (bad_yes T E w' h3).mono ?_
        rintro e w2 ⟨rfl, rfl⟩
        go_wp2
        go_ret
        exact ⟨rfl, Below.refl _ _⟩
      · obtain ⟨t0, t1, e0, e1⟩ : 0 ≤ T ∧ T ≤ 65536 ∧ 0 ≤ E ∧ E ≤ 65536 := by omega
        clear h3
        refine (bad_no T E w' t0 t1 e0 e1).mono ?_
        rintro e w2 ⟨rfl, rfl⟩
        go_wp2_with fail
        refine (clone_any _ a len cap zs HR.out (by omega)).mono ?_
        rintro e w3 ⟨a', rfl, hb3, hcp⟩
        go_wp2_with fail
        refine (new_any w3 T E).mono ?_
        rintro e w4 ⟨rfl, hb4, hS4⟩
        have hI := inv_new t0 t1 e0 e1 hb4 hS4
        have hcp4 := hcp.later hb4
        clear hS4
        generalize w3.heap.size + 3 = sb at *
        go_wp2_with fail
        refine (script_any hI a' _ len len (by omega) (fun h => hcp.lt h) hcp4).mono ?_
        rintro e w5 ⟨rfl, s5, ⟨bm, br, bo, hS5, hG5, b0, b1, b2, b3, b4⟩, hT5, hE5, hb5⟩
        have ok5 := hG5.ok (by omega)
        have hL5 := hG5.L1
        have HE : Hid (s5.E = E) := hE5
        have hz3 := hb3.size
        have HB5 : Hid (Below w2.heap.size w2 w5) := (hb3.trans (hb4.mono hz3)).trans (hb5.mono hz3)
        clear hT5 hE5 hI hcp4 hcp HR hb3 hb4 hb5 h1 h2
        have hBz : w2.heap.size ≤ w3.heap.size := hz3
        generalize w3.heap.size = B at *
        clear hz3
        go_wp2_with fail
        refine (zzN_any hS5).mono ?_
        rintro e w6 ⟨rfl, hw6⟩
        rw [hw6]
        clear hw6 w6
        go_wp2_with fail
        refine (underways_any hS5).mono ?_
        rintro e w6 ⟨rfl, hb6⟩
        unfold undVal
        have hS6 := hS5.later hb6
        go_upto_region 12 with fail
        have hU : Nine (w6.alloc (Obj.cells #[.int .i64 (s5.und (kk 0)), .int .i64 (s5.und (kk 1)), .int .i64 (s5.und (kk 2)), .int .i64 (s5.und (kk 3)), .int .i64 (s5.und (kk 4)), .int .i64 (s5.und (kk 5)), .int .i64 (s5.und (kk 6)), .int .i64 (s5.und (kk 7)), .int .i64 (s5.und (kk 8))] 33)) w6.heap.size (s5.und (kk 0)) (s5.und (kk 1)) (s5.und (kk 2)) (s5.und (kk 3)) (s5.und (kk 4)) (s5.und (kk 5)) (s5.und (kk 6)) (s5.und (kk 7)) (s5.und (kk 8)) := heap_alloc_new w6 _
        have hal : Ch [] w6 (w6.alloc (Obj.cells #[.int .i64 (s5.und (kk 0)), .int .i64 (s5.und (kk 1)), .int .i64 (s5.und (kk 2)), .int .i64 (s5.und (kk 3)), .int .i64 (s5.und (kk 4)), .int .i64 (s5.und (kk 5)), .int .i64 (s5.und (kk 6)), .int .i64 (s5.und (kk 7)), .int .i64 (s5.und (kk 8))] 33)) := Ch.alloc _ _ _
        generalize w6.alloc (Obj.cells #[.int .i64 (s5.und (kk 0)), .int .i64 (s5.und (kk 1)), .int .i64 (s5.und (kk 2)), .int .i64 (s5.und (kk 3)), .int .i64 (s5.und (kk 4)), .int .i64 (s5.und (kk 5)), .int .i64 (s5.und (kk 6)), .int .i64 (s5.und (kk 7)), .int .i64 (s5.und (kk 8))] 33) = W6 at *
        have hSW := hS6.kept hal (by simp) (by simp) (by simp) (by simp)
        have hUs : w6.heap.size ≠ sb := fun e => by have := hS6.blk.lt; omega
        have hUz : w2.heap.size ≤ w6.heap.size := by have := hb6.size; omega
        have HBW : Hid (Below w2.heap.size w2 W6) := (HB5.out.trans (hb6.mono (by omega))).trans (hal.below hUz (by simp))
        clear hS6 hS5 hb6 hal HB5
        go_wp2_with fail
        refine (zzClaim_any hSW ok5 (by omega)).mono ?_
        rintro e w7 ⟨bR, rfl, hS7, hR7, hc7, hbR⟩
        have hU7 := hU.later hc7 (by simpa using hUs)
        have HB7 : Hid (Below w2.heap.size w2 w7) := HBW.out.trans (hc7.below (by have := HBW.out.size; omega) (by simp; omega))
        clear hSW hU hc7 HBW
        generalize w6.heap.size = bU at *
        go_upto_region 13 with fail
        go_cut [57] (fun v wc => v = .bool false ∧ Below w7.heap.size w7 wc)
        case first =>
          have hneq := und_same' (s5.und (kk 0)) (s5.und (kk 1)) (s5.und (kk 2)) (s5.und (kk 3)) (s5.und (kk 4)) (s5.und (kk 5)) (s5.und (kk 6)) (s5.und (kk 7)) (s5.und (kk 8))
          obtain ⟨z0, z1, z2, z3, z4, z5, z6, z7, z8⟩ := hU7.cells
          have hC1 : ∀ w', Below w7.heap.size w7 w' → Calls Trym.prog 17 #[.pointer (some ⟨sb, 0, none⟩)] w' fun e w'' => e = .returned (.int .i64 s5.N) ∧ w'' = w' := fun w' hb => by have := zzN_any (hS7.later hb); exact this
          have hC2 : ∀ w', Below w7.heap.size w7 w' → Calls Trym.prog 20 #[.pointer (some ⟨sb, 0, none⟩)] w' fun e w'' => e = .returned (.agg #[.int .i64 (s5.und (kk 0)), .int .i64 (s5.und (kk 1)), .int .i64 (s5.und (kk 2)), .int .i64 (s5.und (kk 3)), .int .i64 (s5.und (kk 4)), .int .i64 (s5.und (kk 5)), .int .i64 (s5.und (kk 6)), .int .i64 (s5.und (kk 7)), .int .i64 (s5.und (kk 8))]) ∧ Below w'.heap.size w' w'' := fun w' hb => by have := underways_any (hS7.later hb); exact this
          generalize s5.und (kk 0) = x0 at *
          generalize s5.und (kk 1) = x1 at *
          generalize s5.und (kk 2) = x2 at *
          generalize s5.und (kk 3) = x3 at *
          generalize s5.und (kk 4) = x4 at *
          generalize s5.und (kk 5) = x5 at *
          generalize s5.und (kk 6) = x6 at *
          generalize s5.und (kk 7) = x7 at *
          generalize s5.und (kk 8) = x8 at *
          have hbd : Below w7.heap.size w7 w7.drew := (Below.refl _ _).drew
          have K1 : Hid (∀ w', Below w7.heap.size w7 w' → Calls Trym.prog 17 #[.pointer (some ⟨sb, 0, none⟩)] w' fun e w'' => e = .returned (.int .i64 s5.N) ∧ w'' = w') := hC1
          have K2 : Hid (∀ w', Below w7.heap.size w7 w' → Calls Trym.prog 20 #[.pointer (some ⟨sb, 0, none⟩)] w' fun e w'' => e = .returned (.agg #[.int .i64 x0, .int .i64 x1, .int .i64 x2, .int .i64 x3, .int .i64 x4, .int .i64 x5, .int .i64 x6, .int .i64 x7, .int .i64 x8]) ∧ Below w'.heap.size w' w'') := hC2
          clear hC1 hC2
          go_region_with (first | (go_at_call 17; refine (K1.out _ hbd).mono ?_; rintro e w8 ⟨rfl, rfl⟩) | (go_at_call 20; refine (K2.out _ hbd).mono ?_; rintro e w8 ⟨rfl, hb8⟩; obtain ⟨y0, y1, y2, y3, y4, y5, y6, y7, y8⟩ := ((hU7.later (Ch.drew _ []) (by simp)).later (Ch.of_below hb8 []) (by simp)).cells))
          all_goals (go_wp2_with fail; go_meet; exact ⟨rfl, hbd.trans ‹Below w7.drew.heap.size w7.drew _›⟩)
        case rest =>
          obtain ⟨rfl, hbc⟩ := hcut
          have hSc := hS7.later hbc
          have hUc := hU7.later (Ch.of_below hbc []) (by simp)
          have hRc := hR7.of_block (hbc.block _ hR7.lt)
          have HBc : Hid (Below w2.heap.size w2 wc) := HB7.out.trans (hbc.mono (HB7.out.size))
          have ok6 := ok5.looked (s5.L + 1) (by have := ok5.L0; omega) (by omega)
          obtain ⟨f0, f1, f2, f3⟩ := first_facts ok5
          have HF : Hid (s5.first ≤ s5.E) := f1
          rw [HE.out] at f1
          clear hS7 hU7 hR7 hbc HB7
          go_wp2_with fail
          refine (zzFree_any hSc ok6).mono ?_
          rintro e w8 ⟨rfl, k8, rfl⟩
          have hfr : ({ s5 with L := s5.L + 1 } : St).free = s5.free := rfl
          rw [hfr]
          clear hfr
          go_wp2_with fail
          have hrow : wc.rowIs bU 33 9 (fun j => .int .i64 (s5.und (kk j))) := Nine.row (f := fun j => s5.und (kk j)) hUc
          have hlen9 := busyN_all hG5 hSc.m
          have HL9 : Hid (busyN s5 9 = s5.bn) := hlen9
          clear hlen9 hUc
          go_loopw [14, 15] (fun c i wr => ∃ k : Nat, k ≤ 9 ∧ i = .int .i64 k ∧ c = .int .i64 (busyN s5 k) ∧ Below wc.heap.size wc wr) (fun _ i _ => 9 - (intOf i).toNat)
          case atStart => exact ⟨0, Nat.zero_le _, rfl, rfl, below_drewN (Below.refl _ _) _⟩
          case round =>
            obtain ⟨k, hk, rfl, rfl, hbel⟩ := hrel
            have hbk := busyN_le s5 k
            by_cases hlt : k < 9
            · have hle : (k : Int) ≤ 8 := by omega
              have hbs := busyN_succ s5 k
              go_wp2_with fail
              refine (keyAt_any k (by omega) wr).mono ?_
              rintro e w9 ⟨rfl, hb9⟩
              have hbel9 : Below wc.heap.size wc w9 := hbel.trans (hb9.mono hbel.size)
              have hS9 := hSc.later hbel9
              have hR9 := hRc.of_block (hbel9.block _ hRc.lt)
              have hrow9 := hrow.of_block (hbel9.block _ hrow.lt)
              have hck := hrow9.cell hlt
              have hkk : (ka k).data.toList = kk k := rfl
              cases hby : s5.by_ (kk k) with
              | none =>
                have hu : s5.und (kk k) = 0 := by unfold St.und; rw [hby]; rfl
                rw [hu] at hck
                have hv : (Option.map (Value.int IntKind.i64) (Option.map s5.croom (s5.by_ (ka k).data.toList))).getD (.int .i64 0) = .int .i64 0 := by rw [hkk, hby]; rfl
                have ho : (Option.map s5.croom (s5.by_ (ka k).data.toList)).isSome = false := by rw [hkk, hby]; rfl
                rw [hby] at hbs
                have hbs' : Hid (busyN s5 (k + 1) = busyN s5 k) := by unfold Hid; simpa using hbs
                clear hbs hu hby hkk
                go_wp2_with (first | (at_lookup; refine wpList_lookOk _ rfl _ _ 39 3 rfl Trym.underlying39 (zero3 _) rfl hR9 (ka k) rfl (ka_size k) _ false hv ho ?_; clear hv ho))
                go_roundw
                case rel => exact ⟨k + 1, by omega, by go_num, by rw [hbs'.out], hbel9⟩
                case measure => simp [intOf]; omega
              | some l =>
                obtain ⟨_, ul, ue, wl, we, gl, ge⟩ := hG5.by_ _ _ hby
                obtain ⟨c0, c1, c2, c3⟩ := croom_facts ok5 l (by omega) ue
                have hu : s5.und (kk k) = l.u := by unfold St.und; rw [hby]; rfl
                rw [hu] at hck
                have hv : (Option.map (Value.int IntKind.i64) (Option.map s5.croom (s5.by_ (ka k).data.toList))).getD (.int .i64 0) = .int .i64 (s5.croom l) := by rw [hkk, hby]; rfl
                have ho : (Option.map s5.croom (s5.by_ (ka k).data.toList)).isSome = true := by rw [hkk, hby]; rfl
                rw [hby] at hbs
                have hbs' : Hid (busyN s5 (k + 1) = busyN s5 k + 1) := by unfold Hid; simpa using hbs
                have Hrm : Hid (({ s5 with L := s5.L + 1 } : St).room (ka k).data.toList = s5.roomW l.u l.w) := by
                  rw [hkk]
                  unfold Hid St.room St.load
                  simp only []
                  rw [hby]
                  rfl
                have hue : l.u + s5.croom l ≤ E := by rw [← HE.out]; exact c2
                have hE5 := ok5.E1
                have hup : 0 < l.u := by omega
                clear hbs hu hby hkk c2
                go_wp2_with (first | (at_lookup; refine wpList_lookOk _ rfl _ _ 39 3 rfl Trym.underlying39 (zero3 _) rfl hR9 (ka k) rfl (ka_size k) _ true hv ho ?_; clear hv ho))
                refine (zzRoom_any hS9 ok6 (ka k) (ka_size k)).mono ?_
                rintro e w10 ⟨rfl, hb10⟩
                rw [Hrm.out]
                have hbel10 : Below wc.heap.size wc w10 := hbel9.trans (hb10.mono hbel9.size)
                have hck10 : w10.cell? ⟨bU, k, none⟩ = some (.int .i64 l.u) := by
                  have := (hrow.of_block (hbel10.block _ hrow.lt)).cell hlt
                  rw [this]
                  exact (hrow9.cell hlt).symm.trans hck
                have hd1 : decide (s5.croom l < 0) = false := by simpa using c0
                have hd2 : decide (s5.roomW l.u l.w < s5.croom l) = false := by simpa using c1
                have hd3 : decide (E < l.u + s5.croom l) = false := by simpa using hue
                have hd4 : decide (s5.free < s5.croom l) = false := by simpa using c3
                go_wp2
                go_roundw
                case rel => exact ⟨k + 1, by omega, by go_num, by rw [hbs'.out]; go_num, hbel10⟩
                case measure => simp [intOf]; omega
            · have hk9 : k = 9 := by omega
              subst hk9
              have hR10 := hRc.of_block (hbel.block _ hRc.lt)
              have hlenR := fun ty => hR10.len Trym.underlying39 ty
              rw [HL9.out]
              go_wp2
              go_ret
              exact ⟨ret_bool (by simp), HBc.out.trans (hbel.mono (HBc.out.size))⟩
end Go.Proofs.Qxb6001173aMods
