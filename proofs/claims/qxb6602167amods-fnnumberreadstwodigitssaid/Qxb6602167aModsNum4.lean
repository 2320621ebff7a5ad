import Derived.Test.Qxb6602167aModsNum3
namespace Go.Proofs.Qxb6602167aMods
open Go.ChangeShapes Go.WideShapes Go.ChangeAt Go.RowKit
set_option linter.unusedVariables false

/-- What the good case says of ZZNumber, at the number N. -/
theorem zznum_at (s : ByteArray) (ok : Bool) (lim : Int) (N : Nat) (w : World) (hs : 2 ≤ s.size) (ha : (48 : Int) ≤ (s[0].toNat : Int)) (hb : (s[0].toNat : Int) ≤ 57)
    (hc : (48 : Int) ≤ (s[1].toNat : Int)) (hd : (s[1].toNat : Int) ≤ 57) (hN : (N : Int) = ((s[0].toNat : Int) - (48 : Int)) * (10 : Int) + ((s[1].toNat : Int) - (48 : Int))) (b : Bool) (hbk : (ok && decide ((N : Int) ≤ lim)) = b) :
    Calls Trym.prog 8 #[.string s, .bool ok, .int .i64 lim] w fun e w' => e = .returned (.tuple #[.string (s.extract 2 s.size), .bool b, .int .i64 N]) ∧ Below w.heap.size w w' := by
  have h := zznum_good s ok lim w hs ha hb hc hd
  rw [← hN, hbk] at h
  exact h

theorem two_digits (s : ByteArray) (h : TwoD s) : ∃ (h2 : 2 ≤ s.size) (N : Nat), N < 100 ∧ (∀ k, k < 100 → (Opens s (two k) ↔ k = N)) ∧
    (∀ (ok : Bool) (lim : Int) (w : World) (b : Bool), (ok && decide ((N : Int) ≤ lim)) = b →
      Calls Trym.prog 8 #[.string s, .bool ok, .int .i64 lim] w fun e w' => e = .returned (.tuple #[.string (s.extract 2 s.size), .bool b, .int .i64 N]) ∧ Below w.heap.size w w') := by
  obtain ⟨h2, ⟨ha, hb⟩, hc, hd⟩ := h
  obtain ⟨N, hN⟩ : ∃ N : Nat, (N : Int) = ((s[0].toNat : Int) - (48 : Int)) * (10 : Int) + ((s[1].toNat : Int) - (48 : Int)) := ⟨(((s[0].toNat : Int) - (48 : Int)) * (10 : Int) + ((s[1].toNat : Int) - (48 : Int))).toNat, by omega⟩
  refine ⟨h2, N, by omega, fun k hk => ?_, fun ok lim w b hbk => zznum_at s ok lim N w h2 ha hb hc hd hN b hbk⟩
  rw [opens_iff s h2 ha hb hc hd k hk]
  omega

set_option maxHeartbeats 400000 in
theorem law_good (s : ByteArray) (ok : Bool) (lim : Int) (w : World) (hs : s.size ≤ 1048576) (ht : TwoD s) :
    Calls Trym.prog 3 #[.string s, .bool ok, .int .i64 lim] w fun e w' => e = .returned (.bool true) ∧ Below w.heap.size w w' := by
  have h : (s.size : Int) ≤ 1048576 := by omega
  obtain ⟨h2, N, hN, hop, hz0⟩ := two_digits s ht
  have HO : Hid (∀ k, k < 100 → (Opens s (two k) ↔ k = N)) := hop
  have h2i : (2 : Int) ≤ (s.size : Int) := by omega
  clear hop ht
  obtain ⟨b, hbk⟩ : ∃ b, (ok && decide ((N : Int) ≤ lim)) = b := ⟨_, rfl⟩
  have HZ : Hid (Calls Trym.prog 8 #[.string s, .bool ok, .int .i64 lim] w fun e w' => e = .returned (.tuple #[.string (s.extract 2 s.size), .bool b, .int .i64 N]) ∧ Below w.heap.size w w') := hz0 ok lim w b hbk
  clear hz0
  cases ok <;> by_cases hl : (N : Int) ≤ lim <;> simp [hl] at hbk <;> subst hbk
  all_goals
    go_enter Trym.func3, Trym.ntmps3
    go_wp2_with (first | (go_at_call 7; refine (bytes7 _ _ _ _ hs).mono ?_; rintro e w' ⟨rfl, rfl⟩) | (go_at_call 8; refine (HZ.out).mono ?_; rintro e w1 ⟨rfl, hb1⟩))
    go_loopw [10, 11] (fun q c wr => ∃ k : Nat, k ≤ N ∧ c = .int .i64 k ∧ q = .int .i64 (-1) ∧ Below w.heap.size w wr) (fun _ c _ => 100 - (intOf c).toNat)
    case atStart => exact ⟨0, Nat.zero_le _, rfl, rfl, hb1⟩
    case round =>
      obtain ⟨k, hk, rfl, rfl, hb⟩ := hrel
      have hlt : k < 100 := by omega
      have hz := hb.size
      go_wp2_with fail
      refine (two_any k _ hlt).mono ?_
      rintro e w2 ⟨rfl, hb2⟩
      go_wp2_with fail
      refine (hasAt_any s (two k) _ hs).mono ?_
      rintro e w3 ⟨b, rfl, hbo, hb3⟩
      have hz2 := hb2.size
      have hbb := (hb.trans (hb2.mono hz)).trans (hb3.mono (by omega))
      by_cases hkn : k = N
      · have hbf : b = true := hbo.2 ((HO.out k hlt).2 hkn)
        subst hbf hkn
        clear hbo HO HZ
        go_wp2
        go_ret
        exact ⟨by first | (simp; done) | (simp; omega), hbb⟩
      · have hbf : b = false := by
          cases b
          · rfl
          · exact absurd ((HO.out k hlt).1 (hbo.1 rfl)) hkn
        subst hbf
        clear hbo
        have hkn' : k < N := by omega
        go_wp2
        go_roundw
        case rel => exact ⟨k + 1, by omega, by go_num, rfl, hbb⟩
        case measure => simp [intOf]; omega

theorem law_any (s : ByteArray) (ok : Bool) (lim : Int) (w : World) :
    Calls Trym.prog 3 #[.string s, .bool ok, .int .i64 lim] w fun e w' => e = .returned (.bool true) ∧ Below w.heap.size w w' := by
  by_cases hs : s.size ≤ 1048576
  · by_cases ht : TwoD s
    · exact law_good s ok lim w hs ht
    · exact law_bad s ok lim w hs ht
  · exact law_big s ok lim w hs

end Go.Proofs.Qxb6602167aMods
