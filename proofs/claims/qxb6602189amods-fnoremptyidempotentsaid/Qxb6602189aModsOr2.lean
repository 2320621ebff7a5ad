import Derived.Test.Qxb6602189aModsOr
import Derived.Lib.Builder
namespace Go.Proofs.Qxb6602189aMods
open Go.ChangeShapes Go.WideShapes Go.ChangeAt Go.RowKit
set_option linter.unusedVariables false

set_option maxHeartbeats 400000 in
theorem law_zero (a : Addr) (c : Nat) (w : World) :
    Calls Trym.prog 4 #[.slice (some a) 0 c] w fun e w' => e = .returned (.bool true) ∧ Below w.heap.size w w' := by
  have hq := fun (w : World) (a : Addr) => Lib.run_eql_slice_nil (P := Trym.prog) w 25 9 (some a) 0 0 0 0 Trym.underlying25
  go_enter Trym.func4, Trym.ntmps4
  go_wp2_with fail
  refine (bytes_zero _ _ _).mono ?_
  rintro e w' ⟨rfl, rfl⟩
  go_wp2_with fail
  refine (fit_zero _ _ _).mono ?_
  rintro e w' ⟨rfl, rfl⟩
  go_wp2_with fail
  refine (clone_zero _ _ _).mono ?_
  rintro e w1 ⟨rfl, hb1⟩
  go_wp2_with fail
  refine (orE_some _ _ _ _).mono ?_
  rintro e w' ⟨rfl, rfl⟩
  go_wp2_with fail
  refine (orE_some _ _ _ _).mono ?_
  rintro e w' ⟨rfl, rfl⟩
  go_wp2
  go_quiet (fail)
  go_wp2
  go_ret
  exact ⟨rfl, hb1.trans ⟨rfl, rfl, rfl, Nat.le_refl _, fun _ _ => rfl⟩⟩

set_option maxHeartbeats 400000 in
theorem law_big (b off n c : Nat) (w : World) (hn : ¬ n ≤ 1048576) :
    Calls Trym.prog 4 #[.slice (some ⟨b, off, none⟩) n c] w fun e w' => e = .returned (.bool true) ∧ Below w.heap.size w w' := by
  go_enter Trym.func4, Trym.ntmps4
  go_wp2_with fail
  refine (bytes_big _ _ _ _ _ hn).mono ?_
  rintro e w' ⟨rfl, rfl⟩
  go_wp2
  go_ret
  exact ⟨rfl, Below.refl _ _⟩

set_option maxHeartbeats 400000 in
theorem law_mid (b off n c : Nat) (f : Nat → ByteArray) (w : World) (hn : n ≤ 1048576) (hn2 : ¬ n ≤ 65536) (hr : StrRow w b off n f) :
    Calls Trym.prog 4 #[.slice (some ⟨b, off, none⟩) n c] w fun e w' => e = .returned (.bool true) ∧ Below w.heap.size w w' := by
  go_enter Trym.func4, Trym.ntmps4
  go_wp2_with fail
  refine (bytes_row _ _ _ _ f _ hn hr).mono ?_
  rintro e w' ⟨⟨x, rfl⟩, rfl⟩
  cases x
  · go_wp2
    go_ret
    exact ⟨rfl, Below.refl _ _⟩
  · go_wp2_with fail
    refine (fit_big _ _ _ _ _ hn2 (by unfold maxLen; omega)).mono ?_
    rintro e w' ⟨rfl, rfl⟩
    go_wp2
    go_ret
    exact ⟨rfl, Below.refl _ _⟩

set_option maxHeartbeats 400000 in
theorem law_row (b off n c : Nat) (f : Nat → ByteArray) (w : World) (h0 : 0 < n) (hn : n ≤ 65536) (hr : StrRow w b off n f) :
    Calls Trym.prog 4 #[.slice (some ⟨b, off, none⟩) n c] w fun e w' => e = .returned (.bool true) ∧ Below w.heap.size w w' := by
  have hq := fun (w : World) (a : Addr) => Lib.run_eql_slice_nil (P := Trym.prog) w 25 9 (some a) n n 0 0 Trym.underlying25
  have h0i : (0 : Int) < (n : Int) := by omega
  obtain ⟨j9, hj9, _, _, _⟩ := info_parts Trym.info9
  have hp := fun (w : World) (a : Addr) => Lib.run_neq_ptr_same (P := Trym.prog) w (tp := 28) (te := 9) a Trym.underlying28 hj9
  clear hj9
  have HR : Hid (StrRow w b off n f) := hr
  clear hr
  go_enter Trym.func4, Trym.ntmps4
  go_wp2_with fail
  refine (bytes_row _ _ _ _ f _ (by omega) HR.out).mono ?_
  rintro e w' ⟨⟨x, rfl⟩, rfl⟩
  cases x
  · go_wp2
    go_ret
    exact ⟨rfl, Below.refl _ _⟩
  · go_wp2_with fail
    refine (fit_row _ _ _ _ f _ hn HR.out).mono ?_
    rintro e w' ⟨⟨x, rfl⟩, rfl⟩
    cases x
    · go_wp2
      go_ret
      exact ⟨rfl, Below.refl _ _⟩
    · go_wp2_with fail
      refine (clone_row _ _ _ _ f _ hn HR.out).mono ?_
      rintro e w1 ⟨rfl, hb1⟩
      go_wp2_with fail
      refine (orE_some _ _ _ _).mono ?_
      rintro e w' ⟨rfl, rfl⟩
      go_wp2_with fail
      refine (orE_some _ _ _ _).mono ?_
      rintro e w' ⟨rfl, rfl⟩
      go_wp2
      go_quiet (fail)
      go_wp2
      go_ret
      exact ⟨rfl, hb1.trans ⟨rfl, rfl, rfl, Nat.le_refl _, fun _ _ => rfl⟩⟩

/-- What is known of the slice that came in. -/
def IsStrs (w : World) (a : Option Addr) (n c : Nat) : Prop := (a = none ∧ n = 0 ∧ c = 0) ∨ (∃ x, a = some x ∧ n = 0) ∨ ∃ b off f, a = some ⟨b, off, none⟩ ∧ 0 < n ∧ StrRow w b off n f

theorem law_any (a : Option Addr) (n c : Nat) (w : World) (h : IsStrs w a n c) :
    Calls Trym.prog 4 #[.slice a n c] w fun e w' => e = .returned (.bool true) ∧ Below w.heap.size w w' := by
  rcases h with ⟨rfl, rfl, rfl⟩ | ⟨x, rfl, rfl⟩ | ⟨b, off, f, rfl, h0, hr⟩
  · exact law_none w
  · exact law_zero x c w
  · by_cases h1 : n ≤ 1048576
    · by_cases h2 : n ≤ 65536
      · exact law_row b off n c f w h0 h2 hr
      · exact law_mid b off n c f w h1 h2 hr
    · exact law_big b off n c w h1

end Go.Proofs.Qxb6602189aMods
