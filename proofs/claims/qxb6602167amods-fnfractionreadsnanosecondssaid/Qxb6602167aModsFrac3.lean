import Derived.Test.Qxb6602167aModsFrac2
namespace Go.Proofs.Qxb6602167aMods
open Go.ChangeShapes Go.WideShapes Go.ChangeAt Go.RowKit
set_option linter.unusedVariables false

theorem law5_big (s : ByteArray) (ok : Bool) (w : World) (hs : ¬ s.size ≤ 1048576) :
    Calls Trym.prog 5 #[.string s, .bool ok] w fun e w' => e = .returned (.bool true) ∧ Below w.heap.size w w' := by
  go_enter Trym.func5, Trym.ntmps5
  go_wp2_with (go_at_call 12; refine (bytes12_no _ _ _ hs).mono ?_; rintro e w' ⟨rfl, rfl⟩)
  go_ret
  exact ⟨rfl, Below.refl _ _⟩

set_option maxHeartbeats 400000 in
theorem law5_no (s : ByteArray) (ok : Bool) (w : World) (hs : s.size ≤ 1048576) (hn : ¬ Dot s) :
    Calls Trym.prog 5 #[.string s, .bool ok] w fun e w' => e = .returned (.bool true) ∧ Below w.heap.size w w' := by
  have h : (s.size : Int) ≤ 1048576 := by omega
  have HN : Hid (¬ Dot s) := hn
  by_cases h0 : 0 < s.size
  · have hz : ((s.size : Int) == 0) = false := by rw [beq_eq_false_iff_ne]; omega
    have hi : (0 : Int) < (s.size : Int) := by omega
    have hne : ((s[0].toNat : Int) != 46) = true := by
      simp
      exact fun e => hn ⟨h0, by omega⟩
    clear hn
    go_enter Trym.func5, Trym.ntmps5
    go_wp2_with (first | (go_at_call 12; refine (bytes12 _ _ _ hs).mono ?_; rintro e w' ⟨rfl, rfl⟩) | (go_at_call 13; refine (zzfrac_no _ _ _ HN.out).mono ?_; rintro e w1 ⟨rfl, hb1⟩))
    go_ret
    exact ⟨by simp, hb1⟩
  · have hz : ((s.size : Int) == 0) = true := by rw [beq_iff_eq]; omega
    clear hn
    go_enter Trym.func5, Trym.ntmps5
    go_wp2_with (first | (go_at_call 12; refine (bytes12 _ _ _ hs).mono ?_; rintro e w' ⟨rfl, rfl⟩) | (go_at_call 13; refine (zzfrac_no _ _ _ HN.out).mono ?_; rintro e w1 ⟨rfl, hb1⟩))
    go_ret
    exact ⟨by simp, hb1⟩

set_option maxHeartbeats 1000000 in
theorem law5_core (s t d r W : ByteArray) (N : Nat) (ok b : Bool) (w : World) (hs : s.size ≤ 1048576) (h0 : 0 < s.size) (h46 : ((s[0].toNat : Int) != 46) = false)
    (ht : s.extract 1 s.size = t) (hts : t.size = d.size + r.size) (hle : d.size + r.size ≤ 1048576) (hr : t.extract d.size (d.size + r.size) = r) (hd : t.extract 0 d.size = d)
    (HZ : Hid (∀ w, Calls Trym.prog 13 #[.string s, .bool ok] w fun e w' => e = .returned (.tuple #[.string r, .bool b, .int .i64 N]) ∧ Below w.heap.size w w'))
    (HP : Hid (∀ w, Calls Trym.prog 15 #[.int .i64 N] w fun e w' => e = .returned (.tuple #[.string W, .bool true]) ∧ Below w.heap.size w w'))
    (HDg : Hid (∀ i (h : i < d.size), Dig d[i])) (HR : Hid (∀ h : 0 < r.size, ¬ Dig r[0])) (hbk : (ok && decide (0 < d.size)) = b)
    (hW : 9 ≤ W.size) (hW' : W.size ≤ 1000) (HW1 : Hid (∀ i (h : i < W.size) (h' : i < d.size), i < 9 → W[i].toNat = d[i].toNat)) (HW2 : Hid (∀ i (h : i < W.size), ¬ i < d.size → i < 9 → W[i].toNat = 48)) :
    Calls Trym.prog 5 #[.string s, .bool ok] w fun e w' => e = .returned (.bool true) ∧ Below w.heap.size w w' := by
  have h : (s.size : Int) ≤ 1048576 := by omega
  have hz : ((s.size : Int) == 0) = false := by rw [beq_eq_false_iff_ne]; omega
  have hi : (0 : Int) < (s.size : Int) := by omega
  have hi1 : (1 : Int) ≤ (s.size : Int) := by omega
  have HB : Hid ((ok && decide (0 < d.size)) = b) := hbk
  clear hbk
  go_enter Trym.func5, Trym.ntmps5
  go_wp2_with (first | (go_at_call 12; refine (bytes12 _ _ _ hs).mono ?_; rintro e w' ⟨rfl, rfl⟩) | (go_at_call 13; refine (HZ.out _).mono ?_; rintro e w1 ⟨rfl, hb1⟩))
  clear hz h46 ht hts hr hd HZ hi1
  go_loop [11] (fun i => ∃ k : Nat, k ≤ d.size ∧ i = .int .i64 k) (fun i => d.size - (intOf i).toNat)
  case atStart => exact ⟨0, Nat.zero_le _, rfl⟩
  case round =>
    obtain ⟨k, hk, rfl⟩ := hrel
    by_cases hlt : k < d.size
    · have hki : (k : Int) < (d.size : Int) := by omega
      have hdg := HDg.out k hlt
      unfold Dig at hdg
      obtain ⟨ha, hb⟩ := hdg
      go_wp2_with (go_at_call 14; refine (zzD_yes _ _ ha hb).mono ?_; rintro e w' ⟨rfl, rfl⟩)
      go_round
      case rel => exact ⟨k + 1, by omega, by go_num⟩
      case measure => simp [intOf]; omega
    · obtain rfl : k = d.size := by omega
      clear HDg
      cases ok <;> by_cases hd0 : 0 < d.size <;> simp [hd0] at HB <;> have hbb := HB.out <;> clear HB <;> subst hbb
      all_goals by_cases hr0 : 0 < r.size
      all_goals by_cases hd9 : (9 : Int) < (d.size : Int)
      all_goals first | (exfalso; omega) | skip
      all_goals
        have hz1 := hb1.size
        go_wp2_with (first | (go_at_call 14; refine (zzD_no _ _ (HR.out hr0)).mono ?_; rintro e w' ⟨rfl, rfl⟩) | (go_at_call 15; refine (HP.out _).mono ?_; rintro e w2 ⟨rfl, hb2⟩))
        have hb3 := hb1.trans (hb2.mono hz1)
        clear HP HR hb1 hb2
        go_loopw [15] (fun i wr => ∃ k : Nat, k ≤ 9 ∧ i = .int .i64 k ∧ Below w.heap.size w wr) (fun i _ => 9 - (intOf i).toNat)
        case atStart => exact ⟨0, Nat.zero_le _, rfl, hb3⟩
        case round =>
          obtain ⟨k, hk, rfl, hb⟩ := hrel
          by_cases hk9 : k < 9
          · have hkw : k < W.size := by omega
            have hkwi : (k : Int) < (W.size : Int) := by omega
            by_cases hkd : k < d.size
            · first
                | (exfalso; omega)
                | (have hkdi : (k : Int) < (d.size : Int) := by omega
                   have hne : ((W[k].toNat : Int) != (d[k].toNat : Int)) = false := by
                     have := HW1.out k hkw hkd hk9
                     rw [this]
                     simp
                   go_wp2
                   go_quiet (fail)
                   go_wp2
                   go_roundw
                   case rel => exact ⟨k + 1, by omega, by go_num, drewN_below _ hb⟩
                   case measure => simp [intOf]; omega)
            · first
                | (exfalso; omega)
                | (have hne : ((W[k].toNat : Int) != 48) = false := by
                     have := HW2.out k hkw hkd hk9
                     rw [this]
                     simp
                   go_wp2
                   go_roundw
                   case rel => exact ⟨k + 1, by omega, by go_num, hb⟩
                   case measure => simp [intOf]; omega)
          · go_wp2
            go_ret
            exact ⟨rfl, hb⟩

theorem law5_yes (s : ByteArray) (ok : Bool) (w : World) (hs : s.size ≤ 1048576) (hn : Dot s) :
    Calls Trym.prog 5 #[.string s, .bool ok] w fun e w' => e = .returned (.bool true) ∧ Below w.heap.size w w' := by
  obtain ⟨h0, h46⟩ := hn
  obtain ⟨t, ht⟩ : ∃ t, s.extract 1 s.size = t := ⟨_, rfl⟩
  have htz : t.size ≤ 1048576 := by rw [← ht, ByteArray.size_extract]; omega
  obtain ⟨m, hm⟩ := lead_ex t
  obtain ⟨r, hr⟩ : ∃ r, t.extract m t.size = r := ⟨_, rfl⟩
  obtain ⟨d, hd⟩ : ∃ d, t.extract 0 m = d := ⟨_, rfl⟩
  have hmt := hm.1
  have hds : d.size = m := by rw [← hd, ByteArray.size_extract]; omega
  have hrs : r.size = t.size - m := by rw [← hr, ByteArray.size_extract]; omega
  subst hds
  have hts : t.size = d.size + r.size := by omega
  have hda : ∀ i (h : i < d.size), d[i] = t[i] := by
    intro i h
    have e : ∀ (x : ByteArray) (hx : t.extract 0 d.size = x) (hi : i < x.size), x[i] = t[i] := by
      intro x hx hi
      subst hx
      rw [ByteArray.getElem_extract]
      simp
    exact e d hd h
  have hra : ∀ (h : 0 < r.size), r[0] = t[d.size] := by
    intro h
    have e : ∀ (x : ByteArray) (hx : t.extract d.size t.size = x) (hi : 0 < x.size), x[0] = t[d.size] := by
      intro x hx hi
      subst hx
      rw [ByteArray.getElem_extract]
      simp
    exact e r hr h
  have h9 := dg_le t d.size hm
  refine law5_core s t d r (pad (dg t d.size)) (pre (dg t d.size) 9) ok (ok && decide (0 < d.size)) w hs h0 (by rw [h46]; rfl) ht hts (by omega) (by rw [← hts]; exact hr) hd
    (fun w => zzfrac_yes s t r d.size ok _ w ⟨h0, h46⟩ hs ht htz hm hr rfl) (fun w => pad9 _ h9 w) ?_ ?_ rfl (by rw [pad_size]; omega) (by rw [pad_size]; omega) ?_ ?_
  · intro i h
    rw [hda i h]
    exact hm.2.1 i h (by omega)
  · intro h
    rw [hra h]
    exact hm.2.2 (by omega)
  · intro i h h' h''
    rw [pad_at _ h9, hda i h']
    have := dg_in t d.size i hm h' (by omega)
    have hx := hm.2.1 i h' (by omega)
    unfold Dig at hx
    omega
  · intro i h h' h''
    rw [pad_at _ h9, dg_out t d.size i h']

theorem law5_any (s : ByteArray) (ok : Bool) (w : World) :
    Calls Trym.prog 5 #[.string s, .bool ok] w fun e w' => e = .returned (.bool true) ∧ Below w.heap.size w w' := by
  by_cases hs : s.size ≤ 1048576
  · by_cases ht : Dot s
    · exact law5_yes s ok w hs ht
    · exact law5_no s ok w hs ht
  · exact law5_big s ok w hs

end Go.Proofs.Qxb6602167aMods
