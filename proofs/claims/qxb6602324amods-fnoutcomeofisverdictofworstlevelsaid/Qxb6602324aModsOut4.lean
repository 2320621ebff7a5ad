import Derived.Test.Qxb6602324aModsOut3
namespace Go.Proofs.Qxb6602324aMods
open Go.ChangeShapes Go.WideShapes Go.ChangeAt Go.RowKit
set_option linter.unusedVariables false

theorem worst_any (a : Option Addr) (n c : Nat) (L : Nat → Int) (w : World) (hn : n ≤ 65536) (hL : IntSl w a n L) :
    Calls Trym.prog 10 #[.slice a n c] w fun e w' => OutEnd L n e ∧ w = w' := by
  by_cases h : 0 < n
  · exact worst_row a n c L w h hn hL
  · obtain rfl : n = 0 := by omega
    refine (worst_zero a c w).mono ?_
    rintro e w' ⟨rfl, rfl⟩
    exact ⟨OutEnd.mk 0 (Out.none L), rfl⟩

set_option maxHeartbeats 400000 in
theorem law_long (a0 a1 a2 : Option Addr) (n0 c0 n1 c1 n2 c2 : Nat) (w : World) (m1 : n1 ≤ maxLen) (m2 : n2 ≤ maxLen) (s1 : StrSl w a1 n1) (s2 : StrSl w a2 n2) (h : ¬ (n0 ≤ 65536 ∧ n1 ≤ 65536 ∧ n2 ≤ 65536)) :
    Calls Trym.prog 3 #[.slice a0 n0 c0, .slice a1 n1 c1, .slice a2 n2 c2] w fun e w' => e = .returned (.bool true) ∧ Below w.heap.size w w' := by
  have HB : Hid (Calls Trym.prog 6 #[.slice a0 n0 c0, .slice a1 n1 c1, .slice a2 n2 c2] w fun e w' => SomeBool e ∧ w = w') := bytes6 a0 a1 a2 n0 c0 n1 c1 n2 c2 w m1 m2 s1 s2
  clear s1 s2
  unfold maxLen at m1 m2
  by_cases h0 : (65536 : Int) < (n0 : Int)
  · clear h
    go_enter Trym.func3, Trym.ntmps3
    go_wp2_with fail
    refine (HB.out).mono ?_
    rintro e w' ⟨⟨x, rfl⟩, rfl⟩
    cases x
    all_goals
      go_wp2
      go_ret
      exact ⟨rfl, Below.refl _ _⟩
  · by_cases h1 : (65536 : Int) < (n1 : Int)
    · clear h
      go_enter Trym.func3, Trym.ntmps3
      go_wp2_with fail
      refine (HB.out).mono ?_
      rintro e w' ⟨⟨x, rfl⟩, rfl⟩
      cases x
      all_goals
        go_wp2
        go_ret
        exact ⟨rfl, Below.refl _ _⟩
    · have h2 : (65536 : Int) < (n2 : Int) := by omega
      clear h
      go_enter Trym.func3, Trym.ntmps3
      go_wp2_with fail
      refine (HB.out).mono ?_
      rintro e w' ⟨⟨x, rfl⟩, rfl⟩
      cases x
      all_goals
        go_wp2
        go_ret
        exact ⟨rfl, Below.refl _ _⟩

set_option maxHeartbeats 400000 in
theorem law_none (a1 a2 : Option Addr) (n1 c1 n2 c2 : Nat) (w : World) (m1 : n1 ≤ 65536) (m2 : n2 ≤ 65536) (s1 : StrSl w a1 n1) (s2 : StrSl w a2 n2) :
    Calls Trym.prog 3 #[.slice none 0 0, .slice a1 n1 c1, .slice a2 n2 c2] w fun e w' => e = .returned (.bool true) ∧ Below w.heap.size w w' := by
  have HB : Hid (Calls Trym.prog 6 #[.slice none 0 0, .slice a1 n1 c1, .slice a2 n2 c2] w fun e w' => SomeBool e ∧ w = w') := bytes6 none a1 a2 0 0 n1 c1 n2 c2 w (by unfold maxLen; omega) (by unfold maxLen; omega) s1 s2
  have HR : Hid (Calls Trym.prog 7 #[.int .i64 0, .slice none 0 0, .slice a1 n1 c1, .slice a2 n2 c2] w fun e w' => SomeInt e ∧ w = w') := runBytes none a1 a2 0 0 n1 c1 n2 c2 w (by omega) m1 m2 s1 s2
  have h1 : ¬ ((65536 : Int) < (n1 : Int)) := by omega
  have h2 : ¬ ((65536 : Int) < (n2 : Int)) := by omega
  clear s1 s2
  go_enter Trym.func3, Trym.ntmps3
  go_wp2_with fail
  refine (HB.out).mono ?_
  rintro e w' ⟨⟨x, rfl⟩, rfl⟩
  cases x
  · go_wp2
    go_ret
    exact ⟨rfl, Below.refl _ _⟩
  · go_wp2_with fail
    refine (HR.out).mono ?_
    rintro e w' ⟨⟨y, rfl⟩, rfl⟩
    by_cases hy : (1048576 : Int) < y
    · go_wp2
      go_ret
      exact ⟨rfl, Below.refl _ _⟩
    · go_wp2_with fail
      refine (msgs_none _ _ _ _ _ _ _).mono ?_
      rintro e w' ⟨rfl, rfl⟩
      go_wp2_with fail
      refine (outcome_none _).mono ?_
      rintro e w2 ⟨rfl, hb2⟩
      go_wp2_with fail
      refine (worst_zero _ _ _).mono ?_
      rintro e w' ⟨rfl, rfl⟩
      go_wp2
      go_ret
      exact ⟨by first | rfl | simp, hb2⟩

set_option maxHeartbeats 400000 in
theorem law_some (x : Addr) (a1 a2 : Option Addr) (n0 c0 n1 c1 n2 c2 : Nat) (L : Nat → Int) (w : World) (m0 : n0 ≤ 65536) (m1 : n1 ≤ 65536) (m2 : n2 ≤ 65536) (hL : IntSl w (some x) n0 L) (s1 : StrSl w a1 n1) (s2 : StrSl w a2 n2) :
    Calls Trym.prog 3 #[.slice (some x) n0 c0, .slice a1 n1 c1, .slice a2 n2 c2] w fun e w' => e = .returned (.bool true) ∧ Below w.heap.size w w' := by
  have HB : Hid (Calls Trym.prog 6 #[.slice (some x) n0 c0, .slice a1 n1 c1, .slice a2 n2 c2] w fun e w' => SomeBool e ∧ w = w') := bytes6 (some x) a1 a2 n0 c0 n1 c1 n2 c2 w (by unfold maxLen; omega) (by unfold maxLen; omega) s1 s2
  have HR : Hid (Calls Trym.prog 7 #[.int .i64 0, .slice (some x) n0 c0, .slice a1 n1 c1, .slice a2 n2 c2] w fun e w' => SomeInt e ∧ w = w') := runBytes (some x) a1 a2 n0 c0 n1 c1 n2 c2 w m0 m1 m2 s1 s2
  have h0 : ¬ ((65536 : Int) < (n0 : Int)) := by omega
  have h1 : ¬ ((65536 : Int) < (n1 : Int)) := by omega
  have h2 : ¬ ((65536 : Int) < (n2 : Int)) := by omega
  have H0 : Hid (IntSl w (some x) n0 L) := hL
  have H1 : Hid (StrSl w a1 n1) := s1
  have H2 : Hid (StrSl w a2 n2) := s2
  clear s1 s2 hL
  go_enter Trym.func3, Trym.ntmps3
  go_wp2_with fail
  refine (HB.out).mono ?_
  rintro e w' ⟨⟨u, rfl⟩, rfl⟩
  cases u
  · go_wp2
    go_ret
    exact ⟨rfl, Below.refl _ _⟩
  · go_wp2_with fail
    refine (HR.out).mono ?_
    rintro e w' ⟨⟨y, rfl⟩, rfl⟩
    by_cases hy : (1048576 : Int) < y
    · go_wp2
      go_ret
      exact ⟨rfl, Below.refl _ _⟩
    · go_wp2_with fail
      refine (msgs_some _ _ _ _ _ _ _ _ _ L _ m0 m1 m2 H0.out H1.out H2.out).mono ?_
      rintro e w1 ⟨rfl, hb1, hlt, hm⟩
      go_wp2_with fail
      refine (outcome_some _ _ L _ m0 hlt hm).mono ?_
      rintro e w2 ⟨⟨r, rfl, hr⟩, hb2⟩
      have HW : Hid (Below w.heap.size w w2) := hb1.trans (hb2.mono (Nat.le_of_lt hlt))
      have HL : Hid (IntSl w2 (some x) n0 L) := H0.out.below HW.out
      have HRr : Hid (Out L n0 r) := hr
      clear hb1 hlt hm hb2 H0 H1 H2 hr HB HR
      go_wp2_with fail
      refine (worst_any _ _ _ L _ m0 HL.out).mono ?_
      rintro e w3 ⟨⟨q, rfl, hq⟩, rfl⟩
      obtain rfl : r = q := HRr.out.unique hq
      clear hq HRr HL
      go_wp2
      go_ret
      exact ⟨by simp, HW.out⟩

/-- What is known of the slice of levels that came in. -/
def IsLev (w : World) (a : Option Addr) (n c : Nat) : Prop := (a = none ∧ n = 0 ∧ c = 0) ∨ ∃ x L, a = some x ∧ IntSl w (some x) n L

theorem law_any (a0 a1 a2 : Option Addr) (n0 c0 n1 c1 n2 c2 : Nat) (w : World) (m1 : n1 ≤ maxLen) (m2 : n2 ≤ maxLen) (h0 : IsLev w a0 n0 c0) (s1 : StrSl w a1 n1) (s2 : StrSl w a2 n2) :
    Calls Trym.prog 3 #[.slice a0 n0 c0, .slice a1 n1 c1, .slice a2 n2 c2] w fun e w' => e = .returned (.bool true) ∧ Below w.heap.size w w' := by
  by_cases h : n0 ≤ 65536 ∧ n1 ≤ 65536 ∧ n2 ≤ 65536
  · rcases h0 with ⟨rfl, rfl, rfl⟩ | ⟨x, L, rfl, hL⟩
    · exact law_none a1 a2 n1 c1 n2 c2 w h.2.1 h.2.2 s1 s2
    · exact law_some x a1 a2 n0 c0 n1 c1 n2 c2 L w h.1 h.2.1 h.2.2 hL s1 s2
  · exact law_long a0 a1 a2 n0 c0 n1 c1 n2 c2 w m1 m2 s1 s2 h

end Go.Proofs.Qxb6602324aMods
