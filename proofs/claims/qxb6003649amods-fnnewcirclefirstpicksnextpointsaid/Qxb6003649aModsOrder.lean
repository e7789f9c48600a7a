/- Walk: zzStableOrder gives the order of a stable sort. -/
import Derived.Test.Qxb6003649aModsClones
import Derived.BigQuiet
import Derived.Deep.QuietTactic
import Derived.Deep.LoopGhost
import Derived.Deep.DeepCutAuto
import Derived.Deep.CutBlock
namespace Go.Proofs.Qxb6003649aMods
open Go.RowKit
set_option linter.unusedVariables false

theorem info3 : (Trym.prog.info? 3).map (fun i => (i.zero, i.size, i.bytes)) = some (some (.int .i64 0), 1, 8) := by kernel_rfl

/-- A row of indexes. -/
def IRow (w : World) (b n : Nat) (a : Nat → Nat) : Prop := w.rowIs b 3 n (fun i => .int .i64 (a i : Int))

theorem IRow.cell {w : World} {b n : Nat} {a : Nat → Nat} (h : IRow w b n a) {i : Nat} (hi : i < n) : w.cell? ⟨b, i, none⟩ = some (.int .i64 (a i : Int)) := World.rowIs.cell h hi
theorem IRow.frozen {w : World} {b n : Nat} {a : Nat → Nat} (h : IRow w b n a) (i : Nat) : w.frozen? ⟨b, i, none⟩ = false := World.rowIs.frozen h i
theorem IRow.set {w : World} {b n : Nat} {a : Nat → Nat} (h : IRow w b n a) (i v : Nat) : IRow (w.setCell ⟨b, i, none⟩ (.int .i64 (v : Int))) b n (fun x => if x = i then v else a x) :=
  (World.rowIs.set h i _).congr (fun j _ => by by_cases e : j = i <;> simp [e])
theorem IRow.other {w : World} {b n : Nat} {a : Nat → Nat} (h : IRow w b n a) {c i : Nat} (hc : b ≠ c) (v : Value) : IRow (w.setCell ⟨c, i, none⟩ v) b n a := World.rowIs.setOther h hc v
theorem IRow.congr {w : World} {b n : Nat} {a c : Nat → Nat} (h : IRow w b n a) (e : ∀ i, i < n → a i = c i) : IRow w b n c := World.rowIs.congr h (fun i hi => by rw [e i hi])
theorem IRow.of_block {w w' : World} {b n : Nat} {a : Nat → Nat} (h : IRow w b n a) (e : w'.heap[b]? = w.heap[b]?) : IRow w' b n a := World.rowIs.of_block h e

/-- Between two widths: the runs of width W in block x; block y is free to be written. -/
structure SO (w : World) (n : Nat) (κ : Nat → Nat) (x y W : Nat) (wr : World) : Prop where
  ab : (x = w.heap.size ∧ y = w.heap.size + 1) ∨ (x = w.heap.size + 1 ∧ y = w.heap.size)
  rows : ∃ a c, IRow wr x n a ∧ IRow wr y n c ∧ Runs n κ a W n
  bel : Below w.heap.size w wr

/-- Between two merges. -/
structure SM (w : World) (n : Nat) (κ a : Nat → Nat) (x y W L : Nat) (wr : World) : Prop where
  row : IRow wr x n a
  rows : ∃ c p, L = p * (2 * W) ∧ IRow wr y n c ∧ Runs n κ c (2 * W) L
  bel : Below w.heap.size w wr

/-- Inside a merge. -/
structure SI (w : World) (n : Nat) (κ a c0 : Nat → Nat) (x y L mid hi i j k : Nat) (wr : World) : Prop where
  row : IRow wr x n a
  rows : ∃ c, IRow wr y n c ∧ Mrg κ a c L mid hi i j k ∧ ∀ z, z < L → c z = c0 z
  bel : Below w.heap.size w wr

theorem psucc (p W : Nat) : (p + 1) * (2 * W) = p * (2 * W) + 2 * W := Nat.succ_mul p (2 * W)

theorem below_drewN {B : Nat} {a w : World} (h : Below B a w) (n : Nat) : Below B a (w.drewN n) := ⟨h.os, h.tape, h.output, h.size, h.block⟩

theorem SI.takeR {w : World} {n : Nat} {κ a c0 : Nat → Nat} {x y L mid hi i j k : Nat} {wr wr' : World} (h : SI w n κ a c0 x y L mid hi i j k wr) (ra : Run κ a L mid) (rb : Run κ a mid hi) (hxy : x ≠ y) (hy : w.heap.size ≤ y) (hj : j < hi) (hLk : L ≤ k)
    (hlt : i < mid → κ (a j) < κ (a i)) (e : ∃ m, wr' = wr.drewN m) : SI w n κ a c0 x y L mid hi i (j + 1) (k + 1) (wr'.setCell ⟨y, k, none⟩ (.int .i64 (a j : Int))) := by
  obtain ⟨h1, ⟨c, h2, h3, h4⟩, h5⟩ := h
  obtain ⟨m, rfl⟩ := e
  exact ⟨(show IRow (wr.drewN m) x n a from h1).other hxy _, ⟨_, (show IRow (wr.drewN m) y n c from h2).set _ _, h3.takeR ra rb hj hlt (fun _ => rfl), fun z hz => by rw [if_neg (by omega)]; exact h4 z hz⟩, (below_drewN h5 m).setCell hy _⟩

theorem SI.takeL {w : World} {n : Nat} {κ a c0 : Nat → Nat} {x y L mid hi i j k : Nat} {wr wr' : World} (h : SI w n κ a c0 x y L mid hi i j k wr) (ra : Run κ a L mid) (rb : Run κ a mid hi) (hxy : x ≠ y) (hy : w.heap.size ≤ y) (hj : i < mid) (hLk : L ≤ k)
    (hlt : j < hi → κ (a i) ≤ κ (a j)) (e : ∃ m, wr' = wr.drewN m) : SI w n κ a c0 x y L mid hi (i + 1) j (k + 1) (wr'.setCell ⟨y, k, none⟩ (.int .i64 (a i : Int))) := by
  obtain ⟨h1, ⟨c, h2, h3, h4⟩, h5⟩ := h
  obtain ⟨m, rfl⟩ := e
  exact ⟨(show IRow (wr.drewN m) x n a from h1).other hxy _, ⟨_, (show IRow (wr.drewN m) y n c from h2).set _ _, h3.takeL ra rb hj hlt (fun _ => rfl), fun z hz => by rw [if_neg (by omega)]; exact h4 z hz⟩, (below_drewN h5 m).setCell hy _⟩

set_option maxHeartbeats 1000000 in
set_option maxRecDepth 100000 in
theorem order_any (w : World) (kb n cap : Nat) (ka : Option Addr) (κ : Nat → Nat) (hn : n ≤ 1048576) (hk : Own w kb 35 ka n (fun i => .int .u64 (κ i : Int))) :
    Calls Trym.prog 16 #[.slice ka n cap] w fun e w' => ∃ x o, e = .returned (.slice (some ⟨x, 0, none⟩) n n) ∧ w.heap.size ≤ x ∧ IRow w' x n o ∧ Stable n κ o ∧ Below w.heap.size w w' := by
  have hmk := run_make_row' (P := Trym.prog) 38 3 (.int .i64 0) 8 Trym.underlying38 info3 rfl .i64 .i64 n (by omega) (by omega)
  go_enter Trym.func16, Trym.ntmps16
  go_wp2
  go_loopw [5] (fun i wr => ∃ k : Nat, k ≤ n ∧ i = .int .i64 k ∧ IRow wr w.heap.size n (fun j => if j < k then j else 0) ∧ wr.heap.size = w.heap.size + 1 ∧ Below w.heap.size w wr) (fun i _ => n - (intOf i).toNat)
  case atStart => exact ⟨0, Nat.zero_le _, rfl, (World.rowIs_made w (.int .i64 0) n 3).congr (fun i _ => by simp), by simp, (Below.refl _ _).alloc (Nat.le_refl _) _⟩
  case round =>
    obtain ⟨k, hkn, rfl, hrow, hsz, hbel⟩ := hrel
    by_cases hlt : k < n
    · have hck := hrow.cell hlt
      have hfr := hrow.frozen k
      have HS : Hid (wr.heap.size = w.heap.size + 1) := hsz
      clear hsz
      go_wp2
      go_roundw
      case rel =>
        refine ⟨k + 1, by omega, by go_num, (hrow.set k k).congr (fun j hj => ?_), by simpa using HS.out, hbel.setCell (by simp) _⟩
        by_cases e : j = k
        · subst e; simp
        · rw [if_neg e]
          by_cases e2 : j < k
          · rw [if_pos e2, if_pos (by omega)]
          · rw [if_neg e2, if_neg (by omega)]
      case measure => simp [intOf]; omega
    · have hkn' : k = n := by omega
      subst hkn'
      have hrow2 : IRow wr w.heap.size k (fun j => j) := hrow.congr (fun i hi => by rw [if_pos hi])
      have HS : Hid (wr.heap.size = w.heap.size + 1) := hsz
      clear hsz hrow
      go_wp2
      rw [HS.out]
      have hS0 : SO w k κ w.heap.size (w.heap.size + 1) 1 (wr.alloc (.cells (madeCells #[.int .i64 0] k) 3)) := by
        refine ⟨.inl ⟨rfl, rfl⟩, ⟨_, fun _ => 0, hrow2.of_block (Deep.blk_alloc_lt _ _ _ (World.rowIs.lt hrow2)), ?_, runs_one k κ⟩, hbel.alloc (by rw [HS.out]; omega) _⟩
        have := World.rowIs_made wr (.int .i64 0) k 3
        rw [HS.out] at this
        exact this
      have hkb : 0 < k → kb < w.heap.size := fun h => (hk h).2.lt
      generalize wr.alloc (.cells (madeCells #[.int .i64 0] k) 3) = w0 at hS0 ⊢
      clear HS hrow2 hbel hmk
      go_loopg [4, 6, 7] (k - 1) (fun g sa sb sw wr => ∃ x y W : Nat, sa = .slice (some ⟨x, 0, none⟩) k k ∧ sb = .slice (some ⟨y, 0, none⟩) k k ∧ sw = .int .i64 W ∧ 1 ≤ W ∧ W ≤ 2 * k + 1 ∧ g = k - W ∧ SO w k κ x y W wr)
      case atStart => exact ⟨_, _, 1, rfl, rfl, rfl, by omega, by omega, rfl, hS0⟩
      case round =>
        obtain ⟨x, y, W, rfl, rfl, rfl, hW1, hW2, hg, hS⟩ := hrel
        by_cases hWn : W < k
        · obtain ⟨hab, ⟨a, c, hra, hrc, hruns⟩, hbel⟩ := hS
          have hxy : x ≠ y := by omega
          have hy : w.heap.size ≤ y := by omega
          have HM : Hid (SM w k κ a x y W 0 wr) := ⟨hra, ⟨c, 0, by simp, hrc, fun q hq => by omega⟩, hbel⟩
          have HAB : Hid ((x = w.heap.size ∧ y = w.heap.size + 1) ∨ (x = w.heap.size + 1 ∧ y = w.heap.size)) := hab
          have HG : Hid (gk = k - W) := hg
          clear hra hrc hbel hab hg
          obtain ⟨wo, rfl⟩ : ∃ wo : World, wo = wr := ⟨_, rfl⟩
          go_wp2
          go_loopg [8] k (fun g sl wr => ∃ L : Nat, sl = .int .i64 L ∧ L ≤ k + 2 * W ∧ g = k - L ∧ SM w k κ a x y W L wr)
          case atStart => exact ⟨0, rfl, by omega, by omega, HM.out⟩
          case round =>
            obtain ⟨L, rfl, hL, hg3, hM⟩ := hrel
            by_cases hLn : L < k
            · obtain ⟨hra, ⟨c0, p, hp, hrc, hR⟩, hbel⟩ := hM
              obtain ⟨hra1, hrb1⟩ := Runs.pair hruns (p := p) (by rw [← hp]; exact hLn)
              rw [← hp] at hra1 hrb1
              obtain ⟨mid, hmid⟩ : ∃ m : Nat, m = min (L + W) k := ⟨_, rfl⟩
              obtain ⟨hi, hhi⟩ : ∃ m : Nat, m = min (L + 2 * W) k := ⟨_, rfl⟩
              rw [← hmid] at hra1 hrb1
              rw [← hhi] at hrb1
              have HI : Hid (SI w k κ a c0 x y L mid hi L mid L wr) := ⟨hra, ⟨c0, hrc, Mrg.start (by omega) (by omega), fun _ _ => rfl⟩, hbel⟩
              have HR : Hid (Runs k κ c0 (2 * W) L ∧ L = p * (2 * W)) := ⟨hR, hp⟩
              have HP : Hid (Run κ a L mid ∧ Run κ a mid hi) := ⟨hra1, hrb1⟩
              have HG3 : Hid (gk = k - L) := hg3
              clear hra hrc hbel hR hp hra1 hrb1 hg3
              obtain ⟨w2, rfl⟩ : ∃ wo : World, wo = wr := ⟨_, rfl⟩
              go_upto_if 46 with fail
              go_cut [9] (fun m wc => m = .int .i64 mid ∧ wc = w2)
              case first =>
                by_cases hc : L + W > k
                · obtain rfl : mid = k := by omega
                  go_wp2_with fail
                  go_meet
                  case rel => exact ⟨rfl, rfl⟩
                · obtain rfl : mid = L + W := by omega
                  go_wp2_with fail
                  go_meet
                  case rel => exact ⟨by go_num, rfl⟩
              case rest =>
                obtain ⟨rfl, rfl⟩ := hcut
                go_upto_if 54 with fail
                go_cut [10] (fun m w3 => m = .int .i64 hi ∧ w3 = wc)
                case first =>
                  by_cases hc : L + 2 * W > k
                  · obtain rfl : hi = k := by omega
                    go_wp2_with fail
                    go_meet
                    case rel => exact ⟨rfl, rfl⟩
                  · obtain rfl : hi = L + 2 * W := by omega
                    go_wp2_with fail
                    go_meet
                    case rel => exact ⟨by go_num, rfl⟩
                case rest =>
                  obtain ⟨rfl, rfl⟩ := hcut
                  have hmL : L ≤ mid ∧ mid ≤ hi ∧ hi ≤ k := by omega
                  have HH : Hid (hi = min (L + 2 * W) k) := hhi
                  clear hmid hhi
                  go_upto_block 6 with fail
                  go_cut [11, 12, 13] (fun si sj sk w4 => ∃ i j q : Nat, si = .int .i64 i ∧ sj = .int .i64 j ∧ sk = .int .i64 q ∧ SI w k κ a c0 x y L mid hi i j q w4 ∧ (i = mid ∨ j = hi))
                  case first =>
                    go_wp2_with fail
                    go_loopg [11, 12, 13] (mid - L + (hi - mid)) (fun g si sj sk wr => ∃ i j q : Nat, si = .int .i64 i ∧ sj = .int .i64 j ∧ sk = .int .i64 q ∧ g = mid - i + (hi - j) ∧ SI w k κ a c0 x y L mid hi i j q wr)
                    case atStart => exact ⟨L, mid, L, rfl, rfl, rfl, rfl, HI.out⟩
                    case round =>
                      obtain ⟨i, j, q, rfl, rfl, rfl, hg4, hI⟩ := hrel
                      obtain ⟨e1, e2, e3, e4, e5⟩ : q + mid = i + j ∧ L ≤ i ∧ i ≤ mid ∧ mid ≤ j ∧ j ≤ hi := by
                        obtain ⟨_, ⟨c, _, hm, _⟩, _⟩ := hI
                        exact ⟨hm.hk, hm.hi1, hm.hi2, hm.hj1, hm.hj2⟩
                      have HI2 : Hid (SI w k κ a c0 x y L mid hi i j q wr) := hI
                      have HG4 : Hid (gk = mid - i + (hi - j)) := hg4
                      clear hg4
                      by_cases h1 : i < mid
                      · by_cases h2 : j < hi
                        · obtain ⟨rfl, hkr⟩ := hk (by omega)
                          have hai := hI.row.cell (i := i) (by omega)
                          have haj := hI.row.cell (i := j) (by omega)
                          have bi := (HP.out.1.1 i e2 h1)
                          have bj := (HP.out.2.1 j e4 h2)
                          have hki : wr.cell? ⟨kb, a i, none⟩ = some (.int .u64 (κ (a i) : Int)) := (hI.bel.cell (by exact hkb (by omega))).trans (hkr.cell (i := a i) (by omega))
                          have hkj : wr.cell? ⟨kb, a j, none⟩ = some (.int .u64 (κ (a j) : Int)) := (hI.bel.cell (by exact hkb (by omega))).trans (hkr.cell (i := a j) (by omega))
                          have hfr : wr.frozen? ⟨y, q, none⟩ = false := by obtain ⟨_, ⟨c, hc, _, _⟩, _⟩ := hI; exact hc.frozen q
                          obtain ⟨vq, hcq⟩ : ∃ v, wr.cell? ⟨y, q, none⟩ = some (.int .i64 v) := by obtain ⟨_, ⟨c, hc, _, _⟩, _⟩ := hI; exact ⟨_, hc.cell (by omega)⟩
                          clear hI
                          generalize hai' : a i = ai at *
                          generalize haj' : a j = aj at *
                          have HA : Hid (a i = ai ∧ a j = aj) := ⟨hai', haj'⟩
                          clear hai' haj'
                          generalize hki' : κ ai = ki at *
                          generalize hkj' : κ aj = kj at *
                          have HK : Hid (κ ai = ki ∧ κ aj = kj) := ⟨hki', hkj'⟩
                          clear hki' hkj'
                          go_wp2_with fail
                          go_quiet (fail)
                          by_cases hlt : kj < ki
                          · go_wp2_with fail
                            go_roundg (mid - i + (hi - (j + 1)))
                            case measure => rw [HG4.out]; omega
                            case rel =>
                              refine ⟨i, j + 1, q + 1, rfl, by go_num, by go_num, rfl, ?_⟩
                              obtain ⟨ea, eb⟩ := HA.out
                              obtain ⟨ec, ed⟩ := HK.out
                              subst ea eb ec ed
                              exact HI2.out.takeR HP.out.1 HP.out.2 hxy hy h2 (by omega) (fun _ => hlt) ⟨_, rfl⟩
                          · go_wp2_with fail
                            go_roundg (mid - (i + 1) + (hi - j))
                            case measure => rw [HG4.out]; omega
                            case rel =>
                              refine ⟨i + 1, j, q + 1, by go_num, rfl, by go_num, rfl, ?_⟩
                              obtain ⟨ea, eb⟩ := HA.out
                              obtain ⟨ec, ed⟩ := HK.out
                              subst ea eb ec ed
                              exact HI2.out.takeL HP.out.1 HP.out.2 hxy hy h1 (by omega) (fun _ => by omega) ⟨_, rfl⟩
                        · clear hI
                          go_wp2_with fail
                          go_meet
                          case rel => exact ⟨i, j, q, rfl, rfl, rfl, HI2.out, .inr (by omega)⟩
                      · clear hI
                        go_wp2_with fail
                        go_meet
                        case rel => exact ⟨i, j, q, rfl, rfl, rfl, HI2.out, .inl (by omega)⟩
                  case rest =>
                    obtain ⟨i, j, q, rfl, rfl, rfl, hI, hend⟩ := hcut
                    go_wp2_with fail
                    go_loopg [11, 13] (mid - i) (fun g si sk wr => ∃ i q : Nat, si = .int .i64 i ∧ sk = .int .i64 q ∧ g = mid - i ∧ SI w k κ a c0 x y L mid hi i j q wr ∧ (i = mid ∨ j = hi))
                    case atStart => exact ⟨i, q, rfl, rfl, rfl, hI, hend⟩
                    case round =>
                      clear hI hend
                      obtain ⟨i, q, rfl, rfl, hg4, hI, hend⟩ := hrel
                      obtain ⟨e1, e2, e3, e4, e5⟩ : q + mid = i + j ∧ L ≤ i ∧ i ≤ mid ∧ mid ≤ j ∧ j ≤ hi := by
                        obtain ⟨_, ⟨c, _, hm, _⟩, _⟩ := hI
                        exact ⟨hm.hk, hm.hi1, hm.hi2, hm.hj1, hm.hj2⟩
                      have HI2 : Hid (SI w k κ a c0 x y L mid hi i j q wr) := hI
                      have HG4 : Hid (gk = mid - i) := hg4
                      clear hg4
                      by_cases h1 : i < mid
                      · have hjh : j = hi := by omega
                        have hai := hI.row.cell (i := i) (by omega)
                        have hfr : wr.frozen? ⟨y, q, none⟩ = false := by obtain ⟨_, ⟨c, hc, _, _⟩, _⟩ := hI; exact hc.frozen q
                        obtain ⟨vq, hcq⟩ : ∃ v, wr.cell? ⟨y, q, none⟩ = some (.int .i64 v) := by obtain ⟨_, ⟨c, hc, _, _⟩, _⟩ := hI; exact ⟨_, hc.cell (by omega)⟩
                        clear hI
                        go_wp2_with fail
                        go_roundg (mid - (i + 1))
                        case measure => rw [HG4.out]; omega
                        case rel =>
                          refine ⟨i + 1, q + 1, by go_num, by go_num, rfl, ?_, .inr hjh⟩
                          exact HI2.out.takeL HP.out.1 HP.out.2 hxy hy h1 (by omega) (fun _ => by omega) ⟨0, rfl⟩
                      · obtain rfl : i = mid := by omega
                        clear hI hend
                        go_wp2_with fail
                        go_loopg [12, 13] (hi - j) (fun g sj sk wr => ∃ j q : Nat, sj = .int .i64 j ∧ sk = .int .i64 q ∧ g = hi - j ∧ SI w k κ a c0 x y L i hi i j q wr)
                        case atStart => exact ⟨j, q, rfl, rfl, rfl, HI2.out⟩
                        case round =>
                          clear HI2 e1 e4 e5
                          obtain ⟨j, q, rfl, rfl, hg5, hI⟩ := hrel
                          obtain ⟨e1, e4, e5⟩ : q + i = i + j ∧ i ≤ j ∧ j ≤ hi := by
                            obtain ⟨_, ⟨c, _, hm, _⟩, _⟩ := hI
                            exact ⟨hm.hk, hm.hj1, hm.hj2⟩
                          have HI2 : Hid (SI w k κ a c0 x y L i hi i j q wr) := hI
                          have HG5 : Hid (gk = hi - j) := hg5
                          clear hg5
                          by_cases h2 : j < hi
                          · have haj := hI.row.cell (i := j) (by omega)
                            have hfr : wr.frozen? ⟨y, q, none⟩ = false := by obtain ⟨_, ⟨c, hc, _, _⟩, _⟩ := hI; exact hc.frozen q
                            obtain ⟨vq, hcq⟩ : ∃ v, wr.cell? ⟨y, q, none⟩ = some (.int .i64 v) := by obtain ⟨_, ⟨c, hc, _, _⟩, _⟩ := hI; exact ⟨_, hc.cell (by omega)⟩
                            clear hI
                            go_wp2_with fail
                            go_roundg (hi - (j + 1))
                            case measure => rw [HG5.out]; omega
                            case rel =>
                              refine ⟨j + 1, q + 1, by go_num, by go_num, rfl, ?_⟩
                              exact HI2.out.takeR HP.out.1 HP.out.2 hxy hy h2 (by omega) (fun _ => by omega) ⟨0, rfl⟩
                          · obtain rfl : j = hi := by omega
                            clear hI
                            go_wp2_with fail
                            go_roundg (k - (L + 2 * W))
                            case measure => rw [HG3.out]; omega
                            case rel =>
                              obtain ⟨hR, hp⟩ := HR.out
                              obtain ⟨h1', ⟨c, h2', h3', h4'⟩, h5'⟩ := HI2.out
                              refine ⟨L + 2 * W, by go_num, by omega, rfl, h1', ⟨c, p + 1, by rw [psucc, ← hp], h2', ?_⟩, h5'⟩
                              rw [show L + 2 * W = (p + 1) * (2 * W) by rw [psucc, ← hp]]
                              refine Runs.more (b := c0) (by rw [← hp]; exact hR) ?_ (fun z hz => h4' z (by omega))
                              rw [← hp, ← HH.out]
                              exact h3'.run_end
            · have HM2 : Hid (SM w k κ a x y W L wr) := hM
              clear hM
              go_wp2_with fail
              go_roundg (k - 2 * W)
              case measure => rw [HG.out]; omega
              case rel =>
                obtain ⟨h1', ⟨c, p, hp, h2', h3'⟩, h5'⟩ := HM2.out
                exact ⟨y, x, 2 * W, rfl, rfl, by go_num, by omega, by omega, rfl, ⟨by have := HAB.out; omega, ⟨c, a, h2', h1', fun q hq => h3' q (by omega)⟩, h5'⟩⟩
        · go_wp2
          go_ret
          obtain ⟨hab, ⟨a, c, hra, hrc, hruns⟩, hbel⟩ := hS
          exact ⟨x, a, rfl, by omega, hra, runs_stable hruns (by omega), hbel⟩

end Go.Proofs.Qxb6003649aMods
