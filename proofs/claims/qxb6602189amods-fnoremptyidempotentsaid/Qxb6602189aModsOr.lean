import Derived.Test.Qxb6602189aModsRows
import Derived.WalkKit
import Derived.ProofKit
import Derived.WalkLawsBesides
import Derived.WalkSpells
import Derived.Deep.QuietTactic
import Derived.Deep.OwnRows
import Derived.BigQuiet
import Derived.Outline
namespace Go.Proofs.Qxb6602189aMods
open Go.ChangeShapes Go.WideShapes Go.ChangeAt Go.RowKit
set_option linter.unusedVariables false

theorem Trym.info9 : (Trym.prog.info? 9).map (fun i => (i.zero, i.size, i.bytes)) = some (some (.string ByteArray.empty), 1, 16) := by kernel_rfl

/-- The first n cells at b, off hold the strings f. -/
def StrRow (w : World) (b off n : Nat) (f : Nat → ByteArray) : Prop := b < w.heap.size ∧ ∀ i, i < n → w.cell? ⟨b, off + i, none⟩ = some (.string (f i))

/-! ### orEmpty -/
theorem orE_some (a : Addr) (n c : Nat) (w : World) :
    Calls Trym.prog 12 #[.slice (some a) n c] w fun e w' => e = .returned (.slice (some a) n c) ∧ w = w' := by
  have hq := fun w => Lib.run_eql_slice_nil (P := Trym.prog) w 25 9 (some a) n c 0 0 Trym.underlying25
  go_enter Trym.func12, Trym.ntmps12
  go_wp2
  go_ret
  exact ⟨rfl, rfl⟩

theorem orE_none (w : World) :
    Calls Trym.prog 12 #[.slice none 0 0] w fun e w' => e = .returned (.slice (some ⟨w.heap.size, 0, none⟩) 0 0) ∧ Below w.heap.size w w' := by
  have hq := fun w => Lib.run_eql_slice_nil (P := Trym.prog) w 25 9 none 0 0 0 0 Trym.underlying25
  go_enter Trym.func12, Trym.ntmps12
  go_wp2
  go_ret
  exact ⟨rfl, (Below.refl _ _).alloc (Nat.le_refl _) _⟩

/-! ### zzBytes, zzNamesFit: some answer -/
def SomeBool (e : Ending) : Prop := ∃ x : Bool, e = .returned (.bool x)
theorem SomeBool.mk (x : Bool) : SomeBool (.returned (.bool x)) := ⟨x, rfl⟩

theorem bytes_zero (a : Option Addr) (c : Nat) (w : World) :
    Calls Trym.prog 9 #[.slice a 0 c] w fun e w' => e = .returned (.bool true) ∧ w = w' := by
  go_enter Trym.func9, Trym.ntmps9
  go_wp2
  refine wp_loop_rounds 1 ?_
  rw [rounds_succ]
  go_wp2
  go_ret
  exact ⟨rfl, rfl⟩
theorem fit_zero (a : Option Addr) (c : Nat) (w : World) :
    Calls Trym.prog 10 #[.slice a 0 c] w fun e w' => e = .returned (.bool true) ∧ w = w' := by
  go_enter Trym.func10, Trym.ntmps10
  go_wp2
  refine wp_loop_rounds 1 ?_
  rw [rounds_succ]
  go_wp2
  go_ret
  exact ⟨rfl, rfl⟩

theorem bytes_big (b off n c : Nat) (w : World) (hn : ¬ n ≤ 1048576) :
    Calls Trym.prog 9 #[.slice (some ⟨b, off, none⟩) n c] w fun e w' => e = .returned (.bool false) ∧ w = w' := by
  have h : (1048576 : Int) < (n : Int) := by omega
  go_enter Trym.func9, Trym.ntmps9
  go_wp2
  go_ret
  exact ⟨rfl, rfl⟩

set_option maxHeartbeats 400000 in
theorem bytes_row (b off n c : Nat) (f : Nat → ByteArray) (w : World) (hn : n ≤ 1048576) (hr : StrRow w b off n f) :
    Calls Trym.prog 9 #[.slice (some ⟨b, off, none⟩) n c] w fun e w' => SomeBool e ∧ w = w' := by
  have h : (n : Int) ≤ 1048576 := by omega
  obtain ⟨_, hcell⟩ := hr
  go_enter Trym.func9, Trym.ntmps9
  go_wp2
  go_loop [3, 4] (fun t i => ∃ k T : Nat, k ≤ n ∧ i = .int .i64 k ∧ t = .int .i64 T ∧ T ≤ 1048576) (fun _ i => n - (intOf i).toNat)
  case atStart => exact ⟨0, n, Nat.zero_le _, rfl, rfl, hn⟩
  case round =>
    obtain ⟨k, T, hk, rfl, rfl, hT⟩ := hrel
    by_cases hlt : k < n
    · have hc := hcell k hlt
      clear hcell
      by_cases h1 : ((f k).size : Int) ≤ 1048576
      · by_cases h2 : (T : Int) + ((f k).size : Int) ≤ 1048576
        · go_wp2
          go_round
          case rel => exact ⟨k + 1, T + (f k).size, by omega, by go_num, by go_num, by omega⟩
          case measure => simp [intOf]; omega
        · go_wp2
          go_ret
          exact ⟨SomeBool.mk _, rfl⟩
      · go_wp2
        go_ret
        exact ⟨SomeBool.mk _, rfl⟩
    · clear hcell
      go_wp2
      go_ret
      exact ⟨SomeBool.mk _, rfl⟩

theorem fit_big (b off n c : Nat) (w : World) (hn : ¬ n ≤ 65536) (hm : n ≤ maxLen) :
    Calls Trym.prog 10 #[.slice (some ⟨b, off, none⟩) n c] w fun e w' => e = .returned (.bool false) ∧ w = w' := by
  have h : (65536 : Int) < (n : Int) := by omega
  go_enter Trym.func10, Trym.ntmps10
  go_wp2
  go_ret
  exact ⟨rfl, rfl⟩

set_option maxHeartbeats 400000 in
theorem fit_row (b off n c : Nat) (f : Nat → ByteArray) (w : World) (hn : n ≤ 65536) (hr : StrRow w b off n f) :
    Calls Trym.prog 10 #[.slice (some ⟨b, off, none⟩) n c] w fun e w' => SomeBool e ∧ w = w' := by
  have h : (n : Int) ≤ 65536 := by omega
  obtain ⟨_, hcell⟩ := hr
  go_enter Trym.func10, Trym.ntmps10
  go_wp2
  go_loop [3, 4] (fun t i => ∃ (k : Nat) (T : Int), k ≤ n ∧ i = .int .i64 k ∧ t = .int .i64 T) (fun _ i => n - (intOf i).toNat)
  case atStart => exact ⟨0, _, Nat.zero_le _, rfl, rfl⟩
  case round =>
    obtain ⟨k, T, hk, rfl, rfl⟩ := hrel
    by_cases hlt : k < n
    · have hc := hcell k hlt
      clear hcell
      go_wp2
      · go_ret
        exact ⟨SomeBool.mk _, rfl⟩
      · go_round
        case rel => exact ⟨k + 1, _, by omega, by go_num, rfl⟩
        case measure => simp [intOf]; omega
    · clear hcell
      go_wp2
      go_ret
      exact ⟨SomeBool.mk _, rfl⟩

/-! ### zzCloneNames -/
theorem clone_none (w : World) :
    Calls Trym.prog 11 #[.slice none 0 0] w fun e w' => e = .returned (.slice none 0 0) ∧ w = w' := by
  have hq := fun w => Lib.run_eql_slice_nil (P := Trym.prog) w 25 9 none 0 0 0 0 Trym.underlying25
  go_enter Trym.func11, Trym.ntmps11
  go_wp2
  go_ret
  exact ⟨rfl, rfl⟩

theorem clone_zero (a : Addr) (c : Nat) (w : World) :
    Calls Trym.prog 11 #[.slice (some a) 0 c] w fun e w' => e = .returned (.slice (some ⟨w.heap.size, 0, none⟩) 0 0) ∧ Below w.heap.size w w' := by
  have hq := fun w => Lib.run_eql_slice_nil (P := Trym.prog) w 25 9 (some a) 0 c 0 0 Trym.underlying25
  have hmk : ∀ w : World, (Instr.makeSlice 25 (.int .i64 0) (.int .i64 0)).run Trym.prog w = .ok (.slice (some ⟨w.heap.size, 0, none⟩) 0 0) (w.alloc (.cells (madeCells #[.string ByteArray.empty] 0) 9)) := run_make_row' (P := Trym.prog) 25 9 (.string ByteArray.empty) 16 Trym.underlying25 Trym.info9 rfl .i64 .i64 0 (by omega) (by omega)
  go_enter Trym.func11, Trym.ntmps11
  go_wp2
  refine wp_loop_rounds 1 ?_
  rw [rounds_succ]
  go_wp2
  go_ret
  exact ⟨rfl, (Below.refl _ _).alloc (Nat.le_refl _) _⟩

set_option maxHeartbeats 400000 in
theorem clone_row (b off n c : Nat) (f : Nat → ByteArray) (w : World) (hn : n ≤ 65536) (hr : StrRow w b off n f) :
    Calls Trym.prog 11 #[.slice (some ⟨b, off, none⟩) n c] w fun e w' => e = .returned (.slice (some ⟨w.heap.size, 0, none⟩) n n) ∧ Below w.heap.size w w' := by
  have hq := fun w => Lib.run_eql_slice_nil (P := Trym.prog) w 25 9 (some ⟨b, off, none⟩) n c 0 0 Trym.underlying25
  have hmk := run_make_row' (P := Trym.prog) 25 9 (.string ByteArray.empty) 16 Trym.underlying25 Trym.info9 rfl .i64 .i64 n (by omega) (by omega)
  have hi : (n : Int) ≤ 65536 := by omega
  obtain ⟨hb, hcell⟩ := hr
  have HC : Hid (∀ i, i < n → w.cell? ⟨b, off + i, none⟩ = some (.string (f i))) := hcell
  clear hcell
  go_enter Trym.func11, Trym.ntmps11
  go_wp2
  clear hq hmk
  go_loopw [4] (fun i wr => ∃ (k : Nat) (g : Nat → Value), k ≤ n ∧ i = .int .i64 k ∧ wr.rowIs w.heap.size 9 n g ∧ Below w.heap.size w wr) (fun i _ => n - (intOf i).toNat)
  case atStart => exact ⟨0, _, Nat.zero_le _, rfl, World.rowIs_made _ _ _ _, (Below.refl _ _).alloc (Nat.le_refl _) _⟩
  case round =>
    obtain ⟨k, g, hk, rfl, hrow, hbel⟩ := hrel
    by_cases hlt : k < n
    · have hc : wr.cell? ⟨b, off + k, none⟩ = some (.string (f k)) := (hbel.cell (by exact hb)).trans (HC.out k hlt)
      have hc2 := hrow.cell hlt
      have hf2 := hrow.frozen k
      have hki : (k : Int) < (n : Int) := by omega
      go_wp2
      go_roundw
      case rel => exact ⟨k + 1, _, by omega, by go_num, hrow.set k _, hbel.setCell (Nat.le_refl _) _⟩
      case measure => simp [intOf]; omega
    · go_wp2
      go_ret
      exact ⟨rfl, hbel⟩

/-! ### The law -/
set_option maxHeartbeats 400000 in
theorem law_none (w : World) :
    Calls Trym.prog 4 #[.slice none 0 0] w fun e w' => e = .returned (.bool true) ∧ Below w.heap.size w w' := by
  have hq := fun (w : World) (a : Addr) => Lib.run_eql_slice_nil (P := Trym.prog) w 25 9 (some a) 0 0 0 0 Trym.underlying25
  go_enter Trym.func4, Trym.ntmps4
  go_wp2_with fail
  refine (bytes_zero _ _ _).mono ?_
  rintro e w' ⟨rfl, rfl⟩
  go_wp2_with fail
  refine (fit_zero _ _ _).mono ?_
  rintro e w' ⟨rfl, rfl⟩
  go_wp2_with fail
  refine (clone_none _).mono ?_
  rintro e w' ⟨rfl, rfl⟩
  go_wp2_with fail
  refine (orE_none _).mono ?_
  rintro e w1 ⟨rfl, hb1⟩
  go_wp2_with fail
  refine (orE_some _ _ _ _).mono ?_
  rintro e w' ⟨rfl, rfl⟩
  go_wp2
  go_quiet (fail)
  go_wp2
  go_ret
  exact ⟨rfl, hb1.trans ⟨rfl, rfl, rfl, Nat.le_refl _, fun _ _ => rfl⟩⟩

end Go.Proofs.Qxb6602189aMods
