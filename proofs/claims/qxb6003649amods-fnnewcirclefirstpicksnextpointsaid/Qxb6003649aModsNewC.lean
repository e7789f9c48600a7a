/- Walk: newCircle. -/
import Derived.Test.Qxb6003649aModsZz17
import Derived.Test.Qxb6003649aModsPure3
import Derived.Laws.Rows
namespace Go.Proofs.Qxb6003649aMods
open Go.RowKit
set_option linter.unusedVariables false

theorem info4 : (Trym.prog.info? 4).map (fun i => (i.zero, i.size, i.bytes)) = some (some (.bool false), 1, 1) := by kernel_rfl
theorem size52 : (Trym.prog.info? 52).map (·.size) = some 6 := by kernel_rfl

theorem CBlk.cell5 {w : World} {C : Nat} {wd ow nm pl : Value} (h : CBlk w C wd ow nm pl) : w.cell? ⟨C, 5, none⟩ = some pl ∧ w.frozen? ⟨C, 5, none⟩ = false ∧ w.cell? ⟨C, 1, none⟩ = some (.slice none 0 0) ∧ w.cell? ⟨C, 4, none⟩ = some nm := by
  unfold CBlk at h
  refine ⟨?_, ?_, ?_, ?_⟩ <;> simp [World.cell?, World.frozen?, h]
theorem CBlk.setPlaced {w : World} {C : Nat} {wd ow nm pl : Value} (h : CBlk w C wd ow nm pl) (v : Value) : CBlk (w.setCell ⟨C, 5, none⟩ v) C wd ow nm v := by
  unfold CBlk at *
  simp [World.setCell, Array.getElem?_modify, h]

/-- The rounds over the owners: which nodes were met, and how many. -/
structure PL (ws : World) (C B n m : Nat) (wd ow nm : Value) (own : Nat → Nat) (k : Nat) (wr : World) : Prop where
  row : wr.rowIs B 4 m (fun v => .bool (seen own k v))
  blk : CBlk wr C wd ow nm (.int .i64 (DC own m k : Int))
  ch : Ch [C, B] ws wr

theorem PL.skip {ws : World} {C B n m : Nat} {wd ow nm : Value} {own : Nat → Nat} {k : Nat} {wr : World} (h : PL ws C B n m wd ow nm own k wr) (hs : seen own k (own k) = true) : PL ws C B n m wd ow nm own (k + 1) wr := by
  obtain ⟨h1, h2, h3⟩ := h
  refine ⟨h1.congr (fun v _ => ?_), by rw [DC_seen hs]; exact h2, h3⟩
  simp only [seen]
  by_cases e : own k = v
  · subst e; simp [hs]
  · simp [e]

theorem PL.place {ws : World} {C B n m : Nat} {wd ow nm : Value} {own : Nat → Nat} {k : Nat} {wr : World} (h : PL ws C B n m wd ow nm own k wr) (hs : seen own k (own k) = false) (hm : own k < m) (hne : C ≠ B) {o d : Nat} (ho : o = own k) (hd : d = DC own m k) :
    PL ws C B n m wd ow nm own (k + 1) ((wr.setCell ⟨B, o, none⟩ (.bool true)).setCell ⟨C, 5, none⟩ (.int .i64 ((d + 1 : Nat) : Int))) := by
  obtain ⟨h1, h2, h3⟩ := h
  refine ⟨?_, ?_, (h3.setCell (by simp) _).setCell (by simp) _⟩
  · refine ((h1.set o (.bool true)).setOther (by exact hne.symm) _).congr (fun v _ => ?_)
    subst ho
    simp only [seen]
    by_cases e : v = own k
    · subst e; simp
    · rw [if_neg e]
      have : ¬ own k = v := fun e2 => e e2.symm
      simp [this]
  · rw [DC_new hs hm, ← hd]
    have h4 : CBlk (wr.setCell ⟨B, o, none⟩ (.bool true)) C wd ow nm (.int .i64 (DC own m k : Int)) := h2.of_block (Deep.blk_setCell_other _ _ _ _ (by exact hne))
    exact h4.setPlaced _

theorem six_cells {w : World} {R : Nat} {a0 a1 a2 a3 a4 a5 : Value} (h : w.heap[R]? = some (.cells #[a0, a1, a2, a3, a4, a5] 52 (0, 0))) :
    w.cell? ⟨R, 0, none⟩ = some a0 ∧ w.cell? ⟨R, 1, none⟩ = some a1 ∧ w.cell? ⟨R, 2, none⟩ = some a2 ∧ w.cell? ⟨R, 3, none⟩ = some a3 ∧ w.cell? ⟨R, 4, none⟩ = some a4 ∧ w.cell? ⟨R, 5, none⟩ = some a5 := by
  refine ⟨?_, ?_, ?_, ?_, ?_, ?_⟩ <;> simp [World.cell?, h]
theorem six_free {w : World} {R : Nat} {a0 a1 a2 a3 a4 a5 : Value} (h : w.heap[R]? = some (.cells #[a0, a1, a2, a3, a4, a5] 52 (0, 0))) (i : Nat) : w.frozen? ⟨R, i, none⟩ = false := by
  simp [World.frozen?, h]
theorem six_set {w : World} {R : Nat} {a0 a1 a2 a3 a4 a5 : Value} (h : w.heap[R]? = some (.cells #[a0, a1, a2, a3, a4, a5] 52 (0, 0))) (b0 b1 b2 b3 b4 b5 : Value) :
    ((((((w.setCell ⟨R, 0, none⟩ b0).setCell ⟨R, 1, none⟩ b1).setCell ⟨R, 2, none⟩ b2).setCell ⟨R, 3, none⟩ b3).setCell ⟨R, 4, none⟩ b4).setCell ⟨R, 5, none⟩ b5).heap[R]? = some (.cells #[b0, b1, b2, b3, b4, b5] 52 (0, 0)) := by
  simp [World.setCell, Array.getElem?_modify, h]

theorem six_other {w : World} {R k : Nat} (hk : k ≠ R) (b0 b1 b2 b3 b4 b5 : Value) :
    ((((((w.setCell ⟨R, 0, none⟩ b0).setCell ⟨R, 1, none⟩ b1).setCell ⟨R, 2, none⟩ b2).setCell ⟨R, 3, none⟩ b3).setCell ⟨R, 4, none⟩ b4).setCell ⟨R, 5, none⟩ b5).heap[k]? = w.heap[k]? := by
  rw [Deep.blk_setCell_other _ _ _ _ (by exact hk), Deep.blk_setCell_other _ _ _ _ (by exact hk), Deep.blk_setCell_other _ _ _ _ (by exact hk), Deep.blk_setCell_other _ _ _ _ (by exact hk), Deep.blk_setCell_other _ _ _ _ (by exact hk), Deep.blk_setCell_other _ _ _ _ (by exact hk)]
theorem six_ch (w : World) (R : Nat) (b0 b1 b2 b3 b4 b5 : Value) :
    Ch [R] w ((((((w.setCell ⟨R, 0, none⟩ b0).setCell ⟨R, 1, none⟩ b1).setCell ⟨R, 2, none⟩ b2).setCell ⟨R, 3, none⟩ b3).setCell ⟨R, 4, none⟩ b4).setCell ⟨R, 5, none⟩ b5) :=
  ((((((Ch.refl [R] w).setCell (by simp) _).setCell (by simp) _).setCell (by simp) _).setCell (by simp) _).setCell (by simp) _).setCell (by simp) _

/-- What newCircle leaves. -/
def Made (w : World) (pb n m mc : Nat) (na : Option Addr) (p : Nat → Nat) (v : Value) (w' : World) : Prop :=
  ∃ (Wb OB : Nat) (s t : Nat → Nat), v = .agg #[.slice (some ⟨Wb, 0, none⟩) n n, .slice none 0 0, .slice none 0 0, .slice (some ⟨OB, 0, none⟩) n n, .slice na m mc, .int .i64 (DC (fun x => p x % 65536) m n : Int)] ∧
    Stable n (fun x => p x / 4294967296) s ∧ (∀ i, i < n → t i < n) ∧ (∀ i j, i < n → j < n → t i = t j → i = j) ∧
    TRow .u32 25 w' Wb n (fun k => p (s k) / 4294967296) ∧ TRow .u16 42 w' OB n (fun k => p (s k) % 65536) ∧
    (0 < n → TRow .u64 35 w' pb n (fun k => p (t k))) ∧ Ch (Lx0 n [pb]) w w'

set_option maxHeartbeats 2000000 in
set_option maxRecDepth 100000 in
theorem newc_any (w : World) (pb n c1 m mc : Nat) (pa na : Option Addr) (p : Nat → Nat) (hn : n ≤ 131072) (hm : m ≤ 65536) (hp : Own w pb 35 pa n (fun i => .int .u64 (p i : Int)))
    (hQ : ∀ x, x < n → p x < 18446744073709551616) (hO : ∀ x, x < n → p x % 4294967296 < m) :
    Calls Trym.prog 25 #[.slice na m mc, .slice pa n c1] w fun e w' => ∃ v, e = .returned v ∧ Made w pb n m mc na p v w' := by
  have hmk := run_make_row' (P := Trym.prog) 23 42 (.int .u16 0) 2 Trym.underlying23 info42 rfl .i64 .i64 n (by omega) (by omega)
  go_enter Trym.func25, Trym.ntmps25
  go_wp2_with fail
  have hR0 : (((w.alloc (.cells #[.slice none 0 0, .slice none 0 0, .slice none 0 0, .slice none 0 0, .slice none 0 0, .int .i64 0] 52)).alloc (.cells (madeCells #[.int .u16 0] n) 42)).alloc (.cells #[.slice none 0 0, .slice none 0 0, .slice none 0 0, .slice (some ⟨w.heap.size + 1, 0, none⟩) n n, .slice na m mc, .int .i64 0] 52)).heap[w.heap.size]? = some (.cells #[.slice none 0 0, .slice none 0 0, .slice none 0 0, .slice none 0 0, .slice none 0 0, .int .i64 0] 52 (0, 0)) := by
    rw [Deep.blk_alloc_lt _ _ _ (by simp; omega), Deep.blk_alloc_lt _ _ _ (by simp)]; exact Deep.blk_alloc_new _ _
  have hOB0 : TRow .u16 42 (((w.alloc (.cells #[.slice none 0 0, .slice none 0 0, .slice none 0 0, .slice none 0 0, .slice none 0 0, .int .i64 0] 52)).alloc (.cells (madeCells #[.int .u16 0] n) 42)).alloc (.cells #[.slice none 0 0, .slice none 0 0, .slice none 0 0, .slice (some ⟨w.heap.size + 1, 0, none⟩) n n, .slice na m mc, .int .i64 0] 52)) (w.heap.size + 1) n (fun _ => 0) := by
    have := (World.rowIs_made (w.alloc (.cells #[.slice none 0 0, .slice none 0 0, .slice none 0 0, .slice none 0 0, .slice none 0 0, .int .i64 0] 52)) (.int .u16 0) n 42).alloc (.cells #[.slice none 0 0, .slice none 0 0, .slice none 0 0, .slice (some ⟨w.heap.size + 1, 0, none⟩) n n, .slice na m mc, .int .i64 0] 52)
    simp only [Deep.nblk_alloc] at this
    exact this
  have hC0 : CBlk (((w.alloc (.cells #[.slice none 0 0, .slice none 0 0, .slice none 0 0, .slice none 0 0, .slice none 0 0, .int .i64 0] 52)).alloc (.cells (madeCells #[.int .u16 0] n) 42)).alloc (.cells #[.slice none 0 0, .slice none 0 0, .slice none 0 0, .slice (some ⟨w.heap.size + 1, 0, none⟩) n n, .slice na m mc, .int .i64 0] 52)) (w.heap.size + 1 + 1) (.slice none 0 0) (.slice (some ⟨w.heap.size + 1, 0, none⟩) n n) (.slice na m mc) (.int .i64 0) := by
    have := Deep.blk_alloc_new ((w.alloc (.cells #[.slice none 0 0, .slice none 0 0, .slice none 0 0, .slice none 0 0, .slice none 0 0, .int .i64 0] 52)).alloc (.cells (madeCells #[.int .u16 0] n) 42)) (.cells #[.slice none 0 0, .slice none 0 0, .slice none 0 0, .slice (some ⟨w.heap.size + 1, 0, none⟩) n n, .slice na m mc, .int .i64 0] 52)
    simp only [Deep.nblk_alloc] at this
    exact this
  have hbA : Below w.heap.size w (((w.alloc (.cells #[.slice none 0 0, .slice none 0 0, .slice none 0 0, .slice none 0 0, .slice none 0 0, .int .i64 0] 52)).alloc (.cells (madeCells #[.int .u16 0] n) 42)).alloc (.cells #[.slice none 0 0, .slice none 0 0, .slice none 0 0, .slice (some ⟨w.heap.size + 1, 0, none⟩) n n, .slice na m mc, .int .i64 0] 52)) :=
    (((Below.refl _ _).alloc (Nat.le_refl _) _).alloc (by simp) _).alloc (by simp; omega) _
  generalize (((w.alloc (.cells #[.slice none 0 0, .slice none 0 0, .slice none 0 0, .slice none 0 0, .slice none 0 0, .int .i64 0] 52)).alloc (.cells (madeCells #[.int .u16 0] n) 42)).alloc (.cells #[.slice none 0 0, .slice none 0 0, .slice none 0 0, .slice (some ⟨w.heap.size + 1, 0, none⟩) n n, .slice na m mc, .int .i64 0] 52)) = wa at *
  have hpl := hp.lt
  have hpA := hp.after hbA
  have hCl := hC0.lt
  have HCW : Hid (∀ w' S, Ch S wa w' → (∀ i ∈ S, i ∈ Lx0 n [pb] ∨ w.heap.size ≤ i) → Ch (Lx0 n [pb]) w w') := fun w' S h hS => (Ch.of_below hbA _).andThen h hS
  clear hbA hmk
  generalize hRR : w.heap.size = R at *
  have HRR : Hid (w.heap.size = R) := hRR
  clear hRR
  obtain ⟨C, hCC⟩ : ∃ C, C = R + 1 + 1 := ⟨_, rfl⟩
  obtain ⟨OB, hOB⟩ : ∃ OB, OB = R + 1 := ⟨_, rfl⟩
  rw [← hOB] at hOB0
  rw [← hCC, ← hOB] at hC0
  rw [← hCC, ← hOB]
  rw [← hCC] at hCl
  have HOO : Hid (∀ x, x < n → p x % 4294967296 < m) := hO
  refine (sort_any wa C pb OB n c1 pa (some ⟨OB, 0, none⟩) (.slice na m mc) (.int .i64 0) p (fun x => p x / 4294967296) hn hC0 hpA ⟨fun _ => 0, fun _ => ⟨rfl, hOB0⟩⟩ (fun x hx => ⟨hQ x hx, rfl⟩) (fun x hx => by have := hO x hx; omega) (fun h0 => by have := hpl h0; omega)).mono ?_
  rintro e w1 ⟨rfl, Wb, s, t, h1, h2, h3, h4, h5, h6, h7, h8, h9⟩
  have hR1 : w1.heap[R]? = some (.cells #[.slice none 0 0, .slice none 0 0, .slice none 0 0, .slice none 0 0, .slice none 0 0, .int .i64 0] 52 (0, 0)) := (h9.block R (by omega) (by
    have := not_Lx0 (n := n) (a := R) (xs := [pb, OB]) (fun h => by have := hpl h; simp; omega)
    simp [this]; omega)).trans hR0
  have hOB1 : TRow .u16 42 w1 OB n (fun k => p (s k) % 65536) := by
    by_cases h0 : 0 < n
    · exact h7 h0
    · exact (hOB0.congr (fun i hi => by omega)).of_block (h9.block OB hOB0.lt (by have := not_Lx0 (n := n) (a := OB) (xs := [pb, OB]) (fun h => by omega); simp [this]; omega))
  have hmk2 := run_make_row' (P := Trym.prog) 45 4 (.bool false) 1 Trym.underlying45 info4 rfl .i64 .i64 m (by omega) (by omega)
  obtain ⟨g0, g2, g3, g4⟩ := h5.cells
  have hs1 : C < w1.heap.size := by have := h9.size; omega
  have hs2 : R < w1.heap.size := by omega
  have hs3 := hOB1.lt
  have hs4 := h6.lt
  have hl1 : R < OB := by omega
  have hl2 : OB < C := by omega
  have hl3 : C < Wb := by omega
  have hl4 : 0 < n → pb < R := hpl
  have HCH : Hid (Ch (Lx0 n [pb]) w w1) := HCW.out w1 _ h9 (fun i hi => by
    rcases List.mem_cons.1 hi with rfl | hi
    · right; omega
    · unfold Lx0 at hi ⊢
      split at hi
      · simp at hi
      · simp at hi
        rcases hi with rfl | rfl
        · left; simp [*]
        · right; omega)
  clear hCC hOB h9 HCW
  go_upto_block 0 with fail
  have hB0 : (w1.alloc (.cells (madeCells #[.bool false] m) 4)).rowIs w1.heap.size 4 m (fun _ => .bool false) := World.rowIs_made w1 (.bool false) m 4
  have hb2 : Below w1.heap.size w1 (w1.alloc (.cells (madeCells #[.bool false] m) 4)) := (Below.refl _ _).alloc (Nat.le_refl _) _
  generalize w1.alloc (.cells (madeCells #[.bool false] m) 4) = w2 at *
  have hC2 := h5.of_block (hb2.block C hs1)
  have hOB2 := hOB1.of_block (hb2.block OB hs3)
  have hW2 := h6.of_block (hb2.block Wb hs4)
  have hR2 := (hb2.block R hs2).trans hR1
  have hP2 : 0 < n → TRow .u64 35 w2 pb n (fun k => p (t k)) := fun h => (h8 h).of_block (hb2.block pb (h8 h).lt)
  have HCH2 : Hid (Ch (Lx0 n [pb]) w w2) := HCH.out.andThen (Ch.of_below hb2 []) (fun i hi => by simp at hi)
  have hBl := hB0.lt
  generalize hB : w1.heap.size = B at *
  have HB : Hid (w1.heap.size = B) := hB
  have hPL : PL w2 C B n m (.slice (some ⟨Wb, 0, none⟩) n n) (.slice (some ⟨OB, 0, none⟩) n n) (.slice na m mc) (fun k => p (s k) % 65536) 0 w2 :=
    ⟨hB0, by rw [DC_zero]; exact hC2, Ch.refl _ _⟩
  have hDD : DC (fun k => p (s k) % 65536) m n = DC (fun x => p x % 65536) m n := DC_perm (own := fun x => p x % 65536) h1.lt h1.inj
  have hwB : w.heap.size ≤ B := by rw [← hB]; exact HCH.out.size
  clear hB hB0 hb2 hC2 h5 hOB1 h6 hR1 h8 h7 g0 g2 g3 g4 hmk2 HCH hpA hC0 hOB0 hR0
  go_cut [] (fun wc => PL w2 C B n m (.slice (some ⟨Wb, 0, none⟩) n n) (.slice (some ⟨OB, 0, none⟩) n n) (.slice na m mc) (fun k => p (s k) % 65536) n wc)
  case first =>
    go_wp2_with fail
    go_loopg [22] n (fun g si wr => ∃ k : Nat, k + g = n ∧ si = .int .i64 k ∧ PL w2 C B n m (.slice (some ⟨Wb, 0, none⟩) n n) (.slice (some ⟨OB, 0, none⟩) n n) (.slice na m mc) (fun k => p (s k) % 65536) k wr)
    case atStart => exact ⟨0, by omega, rfl, hPL⟩
    case round =>
      clear hPL
      obtain ⟨k, hk, rfl, hL⟩ := hrel
      by_cases hkn : k < n
      · have hco : wr.cell? ⟨OB, k, none⟩ = some (.int .u16 ((p (s k) % 65536 : Nat) : Int)) := (World.cell?_of_block (hL.ch.block OB (by omega) (by simp; omega))).trans (hOB2.cell hkn)
        have hom : p (s k) % 65536 < m := by have := HOO.out _ (h1.lt k hkn); omega
        have hcb := hL.row.cell hom
        have hfb := hL.row.frozen (p (s k) % 65536)
        obtain ⟨q5, q6, -, -⟩ := hL.blk.cell5
        have hdc := DC_le (fun k => p (s k) % 65536) m k
        have HL : Hid (PL w2 C B n m (.slice (some ⟨Wb, 0, none⟩) n n) (.slice (some ⟨OB, 0, none⟩) n n) (.slice na m mc) (fun k => p (s k) % 65536) k wr) := hL
        have HK : Hid (k + gk = n) := hk
        clear hL hk
        by_cases hsn : seen (fun k => p (s k) % 65536) k (p (s k) % 65536) = true
        · have HL2 := HL.out.skip hsn
          have HL3 : Hid _ := HL2
          rw [hsn] at hcb
          clear HL2 HL
          generalize p (s k) % 65536 = o at *
          generalize DC (fun k => p (s k) % 65536) m k = d at *
          go_wp2_with fail
          go_roundg (n - (k + 1))
          case measure => have := HK.out; omega
          case rel => exact ⟨k + 1, by omega, by go_num, HL3.out⟩
        · have hsf : seen (fun k => p (s k) % 65536) k (p (s k) % 65536) = false := by simpa using hsn
          have HL3 : Hid (PL w2 C B n m (.slice (some ⟨Wb, 0, none⟩) n n) (.slice (some ⟨OB, 0, none⟩) n n) (.slice na m mc) (fun k => p (s k) % 65536) (k + 1) ((wr.setCell ⟨B, p (s k) % 65536, none⟩ (.bool true)).setCell ⟨C, 5, none⟩ (.int .i64 ((DC (fun k => p (s k) % 65536) m k + 1 : Nat) : Int)))) :=
            HL.out.place hsf hom (by omega) rfl rfl
          rw [hsf] at hcb
          clear HL hsn hsf
          generalize p (s k) % 65536 = o at *
          generalize DC (fun k => p (s k) % 65536) m k = d at *
          have hne : B ≠ C := by omega
          go_wp2_with fail
          go_roundg (n - (k + 1))
          case measure => have := HK.out; omega
          case rel => exact ⟨k + 1, by omega, by go_num, HL3.out⟩
      · obtain rfl : k = n := by omega
        have HL : Hid (PL w2 C B k m (.slice (some ⟨Wb, 0, none⟩) k k) (.slice (some ⟨OB, 0, none⟩) k k) (.slice na m mc) (fun k => p (s k) % 65536) k wr) := hL
        clear hL
        go_wp2_with fail
        go_meet
        case rel => exact HL.out
  case rest =>
    clear hPL
    obtain ⟨-, hblk, hch⟩ := hcut
    rw [hDD] at hblk
    obtain ⟨q0, q2, q3, -⟩ := hblk.cells
    obtain ⟨q5, -, q1, q4⟩ := hblk.cell5
    have hRc : wc.heap[R]? = some (.cells #[.slice none 0 0, .slice none 0 0, .slice none 0 0, .slice none 0 0, .slice none 0 0, .int .i64 0] 52 (0, 0)) := (hch.block R (by omega) (by simp; omega)).trans hR2
    obtain ⟨r0, r1, r2, r3, r4, r5⟩ := six_cells hRc
    have y0 := six_free hRc 0
    have y1 := six_free hRc 1
    have y2 := six_free hRc 2
    have y3 := six_free hRc 3
    have y4 := six_free hRc 4
    have y5 := six_free hRc 5
    have HDD : Hid (DC (fun k => p (s k) % 65536) m n = DC (fun x => p x % 65536) m n) := hDD
    clear hDD
    obtain ⟨d, hd⟩ : ∃ d, d = DC (fun x => p x % 65536) m n := ⟨_, rfl⟩
    rw [← hd] at hblk q5
    have HD : Hid (d = DC (fun x => p x % 65536) m n) := hd
    have HBK : Hid (CBlk wc C (.slice (some ⟨Wb, 0, none⟩) n n) (.slice (some ⟨OB, 0, none⟩) n n) (.slice na m mc) (.int .i64 (d : Int)) ∧ Ch [C, B] w2 wc) := ⟨hblk, hch⟩
    have HRC : Hid (wc.heap[R]? = some (.cells #[.slice none 0 0, .slice none 0 0, .slice none 0 0, .slice none 0 0, .slice none 0 0, .int .i64 0] 52 (0, 0))) := hRc
    clear hd hblk hch hRc
    go_wp2_with fail
    obtain ⟨hblk, hch⟩ := HBK.out
    have hn1 := six_ch wc R (.slice (some ⟨Wb, 0, none⟩) n n) (.slice none 0 0) (.slice none 0 0) (.slice (some ⟨OB, 0, none⟩) n n) (.slice na m mc) (.int .i64 (d : Int))
    have hn2 := six_set HRC.out (.slice (some ⟨Wb, 0, none⟩) n n) (.slice none 0 0) (.slice none 0 0) (.slice (some ⟨OB, 0, none⟩) n n) (.slice na m mc) (.int .i64 (d : Int))
    generalize ((((((wc.setCell ⟨R, 0, none⟩ (.slice (some ⟨Wb, 0, none⟩) n n)).setCell ⟨R, 1, none⟩ (.slice none 0 0)).setCell ⟨R, 2, none⟩ (.slice none 0 0)).setCell ⟨R, 3, none⟩ (.slice (some ⟨OB, 0, none⟩) n n)).setCell ⟨R, 4, none⟩ (.slice na m mc)).setCell ⟨R, 5, none⟩ (.int .i64 (d : Int))) = w9 at *
    have hsz2 := hch.size
    refine bodyPost_ret (v := .agg #[.slice (some ⟨Wb, 0, none⟩) n n, .slice none 0 0, .slice none 0 0, .slice (some ⟨OB, 0, none⟩) n n, .slice na m mc, .int .i64 (d : Int)]) (results_cell_row rfl _ _ R 52 #[.slice (some ⟨Wb, 0, none⟩) n n, .slice none 0 0, .slice none 0 0, .slice (some ⟨OB, 0, none⟩) n n, .slice na m mc, .int .i64 (d : Int)] (0, 0) _ rfl hn2 Trym.underlying52 rfl size52) rfl ⟨_, rfl, Wb, OB, s, t, by rw [HD.out], h1, h2, h3, ?_, ?_, ?_, ?_⟩
    · exact (hW2.of_block (hch.block Wb (by omega) (by simp; omega))).of_block (hn1.block Wb (by omega) (by simp; omega))
    · exact (hOB2.of_block (hch.block OB (by omega) (by simp; omega))).of_block (hn1.block OB (by omega) (by simp; omega))
    · intro h0
      have := hl4 h0
      exact ((hP2 h0).of_block (hch.block pb (by omega) (by simp; omega))).of_block (hn1.block pb (by omega) (by simp; omega))
    · refine (HCH2.out.andThen hch (fun i hi => ?_)).andThen hn1 (fun i hi => ?_)
      · right
        rw [HRR.out]
        simp at hi
        omega
      · right
        rw [HRR.out]
        simp at hi
        omega

end Go.Proofs.Qxb6003649aMods
