import Derived.Test.Qxb6602167aModsNum2
namespace Go.Proofs.Qxb6602167aMods
open Go.ChangeShapes Go.WideShapes Go.ChangeAt Go.RowKit
set_option linter.unusedVariables false

theorem two_size (k : Nat) : (two k).size = 2 := rfl
theorem two_0 (k : Nat) (h : k < 100) : ((two k)[0]'(by rw [two_size]; omega)).toNat = 48 + k / 10 := by
  show (UInt8.ofNat (48 + k / 10)).toNat = _
  simp [UInt8.toNat_ofNat']
  omega
theorem two_1 (k : Nat) (h : k < 100) : ((two k)[1]'(by rw [two_size]; omega)).toNat = 48 + k % 10 := by
  show (UInt8.ofNat (48 + k % 10)).toNat = _
  simp [UInt8.toNat_ofNat']
  omega

theorem opens_two (s : ByteArray) (k : Nat) (hk : k < 100) : Opens s (two k) ↔ ∃ _ : 2 ≤ s.size, s[0].toNat = 48 + k / 10 ∧ s[1].toNat = 48 + k % 10 := by
  constructor
  · rintro ⟨h, hall⟩
    rw [two_size] at h
    refine ⟨h, ?_, ?_⟩
    · rw [hall 0 (by rw [two_size]; omega), two_0 k hk]
    · rw [hall 1 (by rw [two_size]; omega), two_1 k hk]
  · rintro ⟨h, h0, h1⟩
    refine ⟨by rw [two_size]; exact h, ?_⟩
    intro j hj
    rw [two_size] at hj
    match j, hj with
    | 0, _ => rw [h0, two_0 k hk]
    | 1, _ => rw [h1, two_1 k hk]

/-- No two digits at the head: nothing matches. -/
theorem not_opens (s : ByteArray) (h : ¬ TwoD s) (k : Nat) (hk : k < 100) : ¬ Opens s (two k) := by
  rw [opens_two s k hk]
  rintro ⟨h2, h0, h1⟩
  exact h ⟨h2, by omega, by omega⟩

/-- Two digits: the one match is their number. -/
theorem opens_iff (s : ByteArray) (h2 : 2 ≤ s.size) (ha : (48 : Int) ≤ (s[0].toNat : Int)) (hb : (s[0].toNat : Int) ≤ 57) (hc : (48 : Int) ≤ (s[1].toNat : Int)) (hd : (s[1].toNat : Int) ≤ 57) (k : Nat) (hk : k < 100) :
    Opens s (two k) ↔ (k : Int) = ((s[0].toNat : Int) - (48 : Int)) * (10 : Int) + ((s[1].toNat : Int) - (48 : Int)) := by
  rw [opens_two s k hk]
  constructor
  · rintro ⟨_, h0, h1⟩
    omega
  · intro h
    exact ⟨h2, by omega, by omega⟩

theorem bytes7 (s : ByteArray) (ok : Bool) (lim : Int) (w : World) (hs : s.size ≤ 1048576) :
    Calls Trym.prog 7 #[.string s, .bool ok, .int .i64 lim] w fun e w' => e = .returned (.bool true) ∧ w = w' := by
  have h : (s.size : Int) ≤ 1048576 := by omega
  go_enter Trym.func7, Trym.ntmps7
  go_wp2
  go_ret
  exact ⟨rfl, rfl⟩
theorem bytes7_no (s : ByteArray) (ok : Bool) (lim : Int) (w : World) (hs : ¬ s.size ≤ 1048576) :
    Calls Trym.prog 7 #[.string s, .bool ok, .int .i64 lim] w fun e w' => e = .returned (.bool false) ∧ w = w' := by
  have h : (1048576 : Int) < (s.size : Int) := by omega
  go_enter Trym.func7, Trym.ntmps7
  go_wp2
  go_ret
  exact ⟨rfl, rfl⟩

theorem law_big (s : ByteArray) (ok : Bool) (lim : Int) (w : World) (hs : ¬ s.size ≤ 1048576) :
    Calls Trym.prog 3 #[.string s, .bool ok, .int .i64 lim] w fun e w' => e = .returned (.bool true) ∧ Below w.heap.size w w' := by
  go_enter Trym.func3, Trym.ntmps3
  go_wp2_with (go_at_call 7; refine (bytes7_no _ _ _ _ hs).mono ?_; rintro e w' ⟨rfl, rfl⟩)
  go_ret
  exact ⟨rfl, Below.refl _ _⟩

set_option maxHeartbeats 400000 in
theorem law_bad (s : ByteArray) (ok : Bool) (lim : Int) (w : World) (hs : s.size ≤ 1048576) (hn : ¬ TwoD s) :
    Calls Trym.prog 3 #[.string s, .bool ok, .int .i64 lim] w fun e w' => e = .returned (.bool true) ∧ Below w.heap.size w w' := by
  have h : (s.size : Int) ≤ 1048576 := by omega
  have HN : Hid (¬ TwoD s) := hn
  clear hn
  go_enter Trym.func3, Trym.ntmps3
  go_wp2_with (first | (go_at_call 7; refine (bytes7 _ _ _ _ hs).mono ?_; rintro e w' ⟨rfl, rfl⟩) | (go_at_call 8; refine (zznum_bad _ _ _ _ HN.out).mono ?_; rintro e w1 ⟨rfl, hb1⟩))
  go_loopw [10, 11] (fun q c wr => ∃ k : Nat, k ≤ 100 ∧ c = .int .i64 k ∧ q = .int .i64 (-1) ∧ Below w.heap.size w wr) (fun _ c _ => 100 - (intOf c).toNat)
  case atStart => exact ⟨0, Nat.zero_le _, rfl, rfl, hb1⟩
  case round =>
    obtain ⟨k, hk, rfl, rfl, hb⟩ := hrel
    by_cases hlt : k < 100
    · have hz := hb.size
      go_wp2_with fail
      refine (two_any k _ hlt).mono ?_
      rintro e w2 ⟨rfl, hb2⟩
      go_wp2_with fail
      refine (hasAt_any s (two k) _ hs).mono ?_
      rintro e w3 ⟨b, rfl, hbo, hb3⟩
      have hbf : b = false := by
        cases b
        · rfl
        · exact absurd (hbo.1 rfl) (not_opens s HN.out k hlt)
      subst hbf
      have hz2 := hb2.size
      clear hbo
      go_wp2
      go_roundw
      case rel => exact ⟨k + 1, by omega, by go_num, rfl, (hb.trans (hb2.mono hz)).trans (hb3.mono (by omega))⟩
      case measure => simp [intOf]; omega
    · go_wp2
      go_ret
      exact ⟨by simp, hb⟩

end Go.Proofs.Qxb6602167aMods
