import Derived.Test.Qxb6602324aModsRows
import Derived.WalkKit
import Derived.ProofKit
import Derived.WalkLawsBesides
import Derived.WalkSpells
import Derived.Deep.QuietTactic
import Derived.Deep.OwnRows
import Derived.BigQuiet
import Derived.Outline
namespace Go.Proofs.Qxb6602324aMods
open Go.ChangeShapes Go.WideShapes Go.ChangeAt Go.RowKit
set_option linter.unusedVariables false

def SomeBool (e : Ending) : Prop := ∃ x : Bool, e = .returned (.bool x)
theorem SomeBool.mk (x : Bool) : SomeBool (.returned (.bool x)) := ⟨x, rfl⟩
def SomeInt (e : Ending) : Prop := ∃ x : Int, e = .returned (.int .i64 x)
theorem SomeInt.mk (x : Int) : SomeInt (.returned (.int .i64 x)) := ⟨x, rfl⟩

/-- A slice's n elements: each a string. -/
def StrSl (w : World) (a : Option Addr) (n : Nat) : Prop := ∀ i, i < n → ∃ b off s, a = some ⟨b, off, none⟩ ∧ b < w.heap.size ∧ w.cell? ⟨b, off + i, none⟩ = some (.string s)
/-- A slice's n elements: the numbers L. -/
def IntSl (w : World) (a : Option Addr) (n : Nat) (L : Nat → Int) : Prop := ∀ i, i < n → ∃ b off, a = some ⟨b, off, none⟩ ∧ b < w.heap.size ∧ w.cell? ⟨b, off + i, none⟩ = some (.int .i64 (L i))

theorem StrSl.below {w w' : World} {a : Option Addr} {n : Nat} (h : StrSl w a n) (hb : Below w.heap.size w w') : StrSl w' a n := fun i hi => by
  obtain ⟨b, off, s, h1, h2, h3⟩ := h i hi
  exact ⟨b, off, s, h1, Nat.lt_of_lt_of_le h2 hb.size, (hb.cell (by exact h2)).trans h3⟩
theorem IntSl.below {w w' : World} {a : Option Addr} {n : Nat} {L : Nat → Int} (h : IntSl w a n L) (hb : Below w.heap.size w w') : IntSl w' a n L := fun i hi => by
  obtain ⟨b, off, h1, h2, h3⟩ := h i hi
  exact ⟨b, off, h1, Nat.lt_of_lt_of_le h2 hb.size, (hb.cell (by exact h2)).trans h3⟩

set_option maxHeartbeats 400000 in
theorem strBytes (a : Option Addr) (n c : Nat) (lim : Int) (w : World) (hn : n ≤ 65536) (hs : StrSl w a n) :
    Calls Trym.prog 14 #[.slice a n c, .int .i64 lim] w fun e w' => SomeInt e ∧ w = w' := by
  have hi : (n : Int) ≤ 65536 := by omega
  have HS : Hid (StrSl w a n) := hs
  clear hs
  go_enter Trym.func14, Trym.ntmps14
  go_wp2
  go_loop [5, 6] (fun t i => ∃ (k : Nat) (T : Int), k ≤ n ∧ i = .int .i64 k ∧ t = .int .i64 T) (fun _ i => n - (intOf i).toNat)
  case atStart => exact ⟨0, 0, Nat.zero_le _, rfl, rfl⟩
  case round =>
    obtain ⟨k, T, hk, rfl, rfl⟩ := hrel
    by_cases hlt : k < n
    · obtain ⟨b, off, s, rfl, hb, hc⟩ := HS.out k hlt
      have hki : (k : Int) < (n : Int) := by omega
      go_wp2
      · go_ret
        exact ⟨SomeInt.mk _, rfl⟩
      · go_ret
        exact ⟨SomeInt.mk _, rfl⟩
      · go_round
        case rel => exact ⟨k + 1, _, by omega, by go_num, rfl⟩
        case measure => simp [intOf]; omega
    · have hki : ¬ (k : Int) < (n : Int) := by omega
      go_wp2
      go_ret
      exact ⟨SomeInt.mk _, rfl⟩

set_option maxHeartbeats 400000 in
theorem runBytes (a0 a1 a2 : Option Addr) (n0 c0 n1 c1 n2 c2 : Nat) (w : World) (h0 : n0 ≤ 65536) (h1 : n1 ≤ 65536) (h2 : n2 ≤ 65536) (s1 : StrSl w a1 n1) (s2 : StrSl w a2 n2) :
    Calls Trym.prog 7 #[.int .i64 0, .slice a0 n0 c0, .slice a1 n1 c1, .slice a2 n2 c2] w fun e w' => SomeInt e ∧ w = w' := by
  have hi : (n0 : Int) ≤ 65536 := by omega
  have H1 : Hid (StrSl w a1 n1) := s1
  have H2 : Hid (StrSl w a2 n2) := s2
  clear s1 s2
  go_enter Trym.func7, Trym.ntmps7
  go_wp2_with fail
  refine (strBytes _ _ _ _ _ h1 H1.out).mono ?_
  rintro e w' ⟨⟨x, rfl⟩, rfl⟩
  go_wp2_with fail
  · go_ret
    exact ⟨SomeInt.mk _, rfl⟩
  · refine (strBytes _ _ _ _ _ h2 H2.out).mono ?_
    rintro e w' ⟨⟨y, rfl⟩, rfl⟩
    go_wp2
    · go_ret
      exact ⟨SomeInt.mk _, rfl⟩
    · go_ret
      exact ⟨SomeInt.mk _, rfl⟩

end Go.Proofs.Qxb6602324aMods
