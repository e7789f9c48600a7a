/- Walks: the laws' own helpers, the wrappers, a script's step and the script. -/
import Derived.Test.Qxb6001173aModsGood
namespace Go.Proofs.Qxb6001173aMods
open Go.RowKit Go.Maps
set_option linter.unusedVariables false
attribute [local go_sem] cell_alloc_map frozen_alloc_map

def kn (i : Nat) : ByteArray := ⟨#[107, UInt8.ofNat (97 + i)]⟩
theorem kn_kb (i : Nat) : (kn i).data.toList = kb i := rfl
theorem kn_size (i : Nat) : (kn i).size ≤ maxLen := by
  have : (kn i).size = 2 := rfl
  rw [this]; unfold maxLen; omega

set_option maxHeartbeats 400000 in
theorem keyName_any (i : Nat) (hi : i < 8) (w : World) :
    Calls Trym.prog 33 #[.int .i64 i] w fun e w' => e = .returned (.string (kn i)) ∧ Below w.heap.size w w' := by
  have hcv := run_convert_bytes_arg (P := Trym.prog) (w.alloc (.cells #[.int .u8 107, .int .u8 (97 + (i : Int))] 5)) 22 5 Trym.underlying22 Trym.underlying5 w.heap.size 0 2 2 [107, 97 + (i : Int)] rfl
    (fun j hj => by
      rcases (show j = 0 ∨ j = 1 by omega) with rfl | rfl <;> simp) 9 Trym.underlying9
  have hkn : strOfNums [107, 97 + (i : Int)] = kn i := by
    unfold strOfNums kn
    have : (97 + (i : Int)).toNat = 97 + i := by omega
    simp [this]
  rw [hkn] at hcv
  clear hkn
  go_enter Trym.func33, Trym.ntmps33
  go_wp2
  go_ret
  exact ⟨rfl, (Below.refl _ _).alloc (Nat.le_refl _) _⟩

theorem freshKey_any (w : World) : Calls Trym.prog 28 #[] w fun e w' => e = .returned (.string ⟨#[102, 114, 101, 115, 104]⟩) ∧ w' = w := by
  go_enter Trym.func28, Trym.ntmps28
  go_wp2
  go_ret
  exact ⟨rfl, rfl⟩

def fresh : ByteArray := ⟨#[102, 114, 101, 115, 104]⟩
/-- keyAt's keys: the script's eight, and the fresh one. -/
def ka (i : Nat) : ByteArray := if i = 8 then fresh else kn i

set_option maxHeartbeats 400000 in
theorem keyAt_any (i : Nat) (hi : i ≤ 8) (w : World) :
    Calls Trym.prog 22 #[.int .i64 i] w fun e w' => e = .returned (.string (ka i)) ∧ Below w.heap.size w w' := by
  by_cases h8 : i = 8
  · subst h8
    go_enter Trym.func22, Trym.ntmps22
    go_wp2_with fail
    refine (freshKey_any w).mono ?_
    rintro e w' ⟨rfl, rfl⟩
    go_wp2
    go_ret
    exact ⟨rfl, Below.refl _ _⟩
  · have hk : ka i = kn i := by unfold ka; rw [if_neg h8]
    rw [hk]
    have hlt : i < 8 := by omega
    have hne : ((i : Int) == 8) = false := by simp; omega
    clear hk h8
    go_enter Trym.func22, Trym.ntmps22
    go_wp2_with fail
    refine (keyName_any i hlt w).mono ?_
    rintro e w' ⟨rfl, hb⟩
    go_wp2
    go_ret
    exact ⟨rfl, hb⟩

/-! ### the wrappers -/
section
variable {w : World} {sb bm br bo : Nat} {s : St}

theorem zzRoom_any (h : SH w sb bm br bo s) (ok : s.Ok) (k : ByteArray) (hk : k.size ≤ maxLen) :
    Calls Trym.prog 26 #[.pointer (some ⟨sb, 0, none⟩), .string k] w fun e w' => e = .returned (.int .i64 (s.room k.data.toList)) ∧ Below w.heap.size w w' := by
  go_enter Trym.func26, Trym.ntmps26
  go_wp2_with fail
  refine (room_any h ok k hk).mono ?_
  rintro e w' ⟨rfl, hb⟩
  go_wp2
  go_ret
  exact ⟨rfl, hb⟩

theorem zzFree_any (h : SH w sb bm br bo s) (ok : s.Ok) :
    Calls Trym.prog 18 #[.pointer (some ⟨sb, 0, none⟩)] w fun e w' => e = .returned (.int .i64 s.free) ∧ ∃ k, w' = w.drewN k := by
  go_enter Trym.func18, Trym.ntmps18
  go_wp2_with fail
  refine (free_any h ok).mono ?_
  rintro e w' ⟨rfl, k, rfl⟩
  go_wp2
  go_ret
  exact ⟨rfl, k, rfl⟩

theorem zzN_any (h : SH w sb bm br bo s) :
    Calls Trym.prog 17 #[.pointer (some ⟨sb, 0, none⟩)] w fun e w' => e = .returned (.int .i64 s.N) ∧ w' = w := by
  have c2 := h.blk.c2
  go_enter Trym.func17, Trym.ntmps17
  go_wp2
  go_ret
  exact ⟨rfl, rfl⟩

theorem zzKeys_any (h : SH w sb bm br bo s) :
    Calls Trym.prog 19 #[.pointer (some ⟨sb, 0, none⟩)] w fun e w' => e = .returned (.int .i64 s.bn) ∧ w' = w := by
  have c3 := h.blk.c3
  have hlen := fun ty => h.m.len Trym.underlying49 ty
  clear h
  go_enter Trym.func19, Trym.ntmps19
  go_wp2
  go_ret
  exact ⟨rfl, rfl⟩

def St.und (s : St) (k : List UInt8) : Int := ((s.by_ k).getD Ld.nil).u

theorem field0 (a b c : Int) (w : World) : (Instr.field 61 (.agg #[.int .i64 a, .int .i64 b, .int .i64 c]) 0).run Trym.prog w = .ok (.int .i64 a) w := by kernel_rfl

theorem zzUnder_any (h : SH w sb bm br bo s) (k : ByteArray) (hk : k.size ≤ maxLen) :
    Calls Trym.prog 32 #[.pointer (some ⟨sb, 0, none⟩), .string k] w fun e w' => e = .returned (.int .i64 (s.und k.data.toList)) ∧ w' = w := by
  have c3 := h.blk.c3
  have hrun := h.m.look_plain Trym.underlying49 (zero61 w) hk
  have hv : (Option.map Ld.val (s.by_ k.data.toList)).getD (Value.agg #[Value.int IntKind.i64 0, Value.int IntKind.i64 0, Value.int IntKind.i64 0]) = .agg #[.int .i64 (s.und k.data.toList), .int .i64 ((s.by_ k.data.toList).getD Ld.nil).w, .int .i64 ((s.by_ k.data.toList).getD Ld.nil).g] := by
    unfold St.und
    cases s.by_ k.data.toList <;> rfl
  rw [hv] at hrun
  clear hv h
  generalize ((s.by_ k.data.toList).getD Ld.nil).w = x1 at *
  generalize ((s.by_ k.data.toList).getD Ld.nil).g = x2 at *
  have hfld := field0
  go_enter Trym.func32, Trym.ntmps32
  go_wp2
  go_ret
  exact ⟨rfl, rfl⟩

theorem zzTake_any (h : SH w sb bm br bo s) (ok : s.Ok) (k : ByteArray) (hk : k.size ≤ maxLen) :
    Calls Trym.prog 34 #[.pointer (some ⟨sb, 0, none⟩), .string k] w fun e w' => e = .returned (.tuple #[]) ∧ SH w' sb bm br bo (s.take k.data.toList) ∧ Ch [sb, bm] w w' := by
  go_enter Trym.func34, Trym.ntmps34
  go_wp2_with fail
  refine (take_any h ok k hk).mono ?_
  rintro e w' ⟨rfl, hb⟩
  go_wp2
  go_end0
  exact ⟨rfl, hb⟩

theorem zzGive_any (h : SH w sb bm br bo s) (ok : s.Ok) (k : ByteArray) (hk : k.size ≤ maxLen) (l : Ld) (hl : s.by_ k.data.toList = some l) (e : Int) (he : e = 0 ∨ e = 1 ∨ e = 2) :
    Calls Trym.prog 35 #[.pointer (some ⟨sb, 0, none⟩), .string k, .int .i64 e] w fun e' w' => e' = .returned (.tuple #[]) ∧ GivePost w w' sb bm br bo (s.ended k.data.toList (l.after e s.E)) := by
  go_enter Trym.func35, Trym.ntmps35
  go_wp2_with fail
  refine (give_any h ok k hk l hl e he).mono ?_
  rintro e w' ⟨rfl, hb⟩
  go_wp2
  go_end0
  exact ⟨rfl, hb⟩

theorem zzClaim_any (h : SH w sb bm br bo s) (ok : s.Ok) (hL : s.L < 1000000) :
    Calls Trym.prog 25 #[.pointer (some ⟨sb, 0, none⟩)] w fun e w' => ∃ bR, e = .returned (.tuple #[.map (some bR), .int .i64 s.first, .int .i64 s.limit]) ∧ ClaimPost w w' sb bm br bo bR s := by
  go_enter Trym.func25, Trym.ntmps25
  go_wp2_with fail
  refine (claim_any h ok hL).mono ?_
  rintro e w' ⟨bR, rfl, hb⟩
  go_wp2
  go_ret3
  exact ⟨bR, rfl, hb⟩
end
end Go.Proofs.Qxb6001173aMods
