import Derived.Test.Qxb6602167aModsNum3
import Derived.Test.Qxb6602167aModsFracPlain
namespace Go.Proofs.Qxb6602167aMods
open Go.ChangeShapes Go.WideShapes Go.ChangeAt Go.RowKit
set_option linter.unusedVariables false

theorem ret_int {a b : Nat} (h : a = b) : Ending.returned (.int .i64 (a : Int)) = .returned (.int .i64 (b : Int)) := by rw [h]

/-- The text opens with a dot. -/
def Dot (s : ByteArray) : Prop := ∃ h : 0 < s.size, (s[0].toNat : Int) = 46

theorem dot_iff (s : ByteArray) (h : 0 < s.size) : ((s.extract 0 1).toList == [46]) = true ↔ (s[0].toNat : Int) = 46 := by
  have e : (s.extract 0 1).toList = [s[0]] := by
    rw [ByteArray.toList_eq, ByteArray.data_extract]
    apply List.ext_getElem
    · have hz : s.data.size = s.size := rfl
      simp
      omega
    · intro i h1 h2
      simp at h2
      subst h2
      simp [ByteArray.getElem_eq_getElem_data]
  rw [e]
  constructor
  · intro h'
    have : s[0] = 46 := by simpa using h'
    rw [this]
    rfl
  · intro h'
    have : s[0] = 46 := by
      apply UInt8.toNat_inj.1
      show s[0].toNat = 46
      omega
    simp [this]

theorem hp_yes (s : ByteArray) (w : World) (hd : Dot s) :
    Calls Trym.prog 20 #[.string s, .string ⟨#[46]⟩] w fun e w' => e = .returned (.bool true) ∧ w = w' := by
  obtain ⟨h0, h1⟩ := hd
  have h2 : (1 : Int) ≤ (s.size : Int) := by omega
  have h3 := (dot_iff s h0).2 h1
  clear h1
  go_enter Trym.func20, Trym.ntmps20
  go_wp2
  go_ret
  exact ⟨rfl, rfl⟩

theorem hp_no (s : ByteArray) (w : World) (hd : ¬ Dot s) :
    Calls Trym.prog 20 #[.string s, .string ⟨#[46]⟩] w fun e w' => e = .returned (.bool false) ∧ w = w' := by
  by_cases h0 : 0 < s.size
  · have h2 : (1 : Int) ≤ (s.size : Int) := by omega
    have h3 : ((s.extract 0 1).toList == [46]) = false := by
      cases e : ((s.extract 0 1).toList == [46])
      · rfl
      · exact absurd ⟨h0, (dot_iff s h0).1 e⟩ hd
    clear hd
    go_enter Trym.func20, Trym.ntmps20
    go_wp2
    go_ret
    exact ⟨rfl, rfl⟩
  · have h2 : ¬ (1 : Int) ≤ (s.size : Int) := by omega
    clear hd
    go_enter Trym.func20, Trym.ntmps20
    go_wp2
    go_ret
    exact ⟨rfl, rfl⟩

theorem frac_no (s : ByteArray) (ok : Bool) (w : World) (hd : ¬ Dot s) :
    Calls Trym.prog 18 #[.pointer (some ⟨w.heap.size, 0, none⟩)] (w.alloc (.cells #[.string s, .bool ok] 36)) fun e w' => e = .returned (.int .i64 0) ∧ w' = w.alloc (.cells #[.string s, .bool ok] 36) := by
  have H : Hid (¬ Dot s) := hd
  clear hd
  go_enter Trym.func18, Trym.ntmps18
  go_wp2_with (go_at_call 20; refine (hp_no _ _ H.out).mono ?_; rintro e w' ⟨rfl, rfl⟩)
  go_ret
  exact ⟨rfl, rfl⟩

set_option maxHeartbeats 1000000 in
theorem frac_yes (s t : ByteArray) (m : Nat) (ok : Bool) (w : World) (hd : Dot s) (hs : s.size ≤ 1048576) (ht : s.extract 1 s.size = t) (htz : t.size ≤ 1048576) (hm : Lead t m) :
    Calls Trym.prog 18 #[.pointer (some ⟨w.heap.size, 0, none⟩)] (w.alloc (.cells #[.string s, .bool ok] 36)) fun e w' => e = .returned (.int .i64 (pre (dg t m) 9 : Nat)) ∧ w' = w.alloc (.cells #[.string (t.extract m t.size), .bool (ok && decide (0 < m))] 36) := by
  have h1 : (1 : Int) ≤ (s.size : Int) := by obtain ⟨h, _⟩ := hd; omega
  have HD : Hid (Dot s) := hd
  have HM : Hid (Lead t m) := hm
  have hmt : m ≤ t.size := hm.1
  clear hd hm
  go_enter Trym.func18, Trym.ntmps18
  go_wp2_with (go_at_call 20; refine (hp_yes _ _ HD.out).mono ?_; rintro e w' ⟨rfl, rfl⟩)
  go_loop [3, 4] (fun n a => ∃ k A : Nat, k ≤ m ∧ n = .int .i64 k ∧ a = .int .i64 A ∧ A < 1000000000 ∧ Hid (A = pre (dg t m) (min k 9))) (fun n _ => m - (intOf n).toNat)
  case atStart => exact ⟨0, 0, Nat.zero_le _, rfl, rfl, by omega, rfl⟩
  case round =>
    obtain ⟨k, A, hk, rfl, rfl, hA, HA⟩ := hrel
    by_cases hlt : k < m
    · have hkt : k < t.size := by omega
      have hki : (k : Int) < (t.size : Int) := by omega
      have hdg := HM.out.2.1 k hlt hkt
      unfold Dig at hdg
      obtain ⟨ha, hb⟩ := hdg
      have HG : Hid (((dg t m k : Nat) : Int) = (t[k].toNat : Int) - 48) := dg_in t m k HM.out hlt hkt
      have hk1 : k + 1 ≤ m := hlt
      by_cases h9 : k < 9
      · have hnx : A * 10 + dg t m k = pre (dg t m) (min (k + 1) 9) ∧ A * 10 + dg t m k < 1000000000 := by
          have e1 : min (k + 1) 9 = k + 1 := by omega
          have e2 : min k 9 = k := by omega
          have e3 := pre_le_nine (dg t m) (dg_le t m HM.out) (k + 1) (by omega)
          have e4 := HA.out
          rw [e2] at e4
          rw [pre_succ, ← e4] at e3
          rw [e1, pre_succ, ← e4]
          exact ⟨rfl, e3⟩
        have HX : Hid (A * 10 + dg t m k = pre (dg t m) (min (k + 1) 9) ∧ A * 10 + dg t m k < 1000000000) := hnx
        clear hnx
        go_wp2_with (go_at_call 19; refine (isD_yes _ _ ha hb).mono ?_; rintro e w' ⟨rfl, rfl⟩)
        go_round
        case rel =>
          have hg := HG.out
          exact ⟨k + 1, A * 10 + dg t m k, hk1, by go_num, by go_num, HX.out.2, HX.out.1⟩
        case measure => simp [intOf]; omega
      · go_wp2_with (go_at_call 19; refine (isD_yes _ _ ha hb).mono ?_; rintro e w' ⟨rfl, rfl⟩)
        go_round
        case rel =>
          refine ⟨k + 1, A, hk1, by go_num, rfl, hA, ?_⟩
          have e4 := HA.out
          show A = _
          rw [e4, show min (k + 1) 9 = 9 from by omega, show min k 9 = 9 from by omega]
        case measure => simp [intOf]; omega
    · have hkm : k = m := by omega
      subst hkm
      have HL : Hid (∀ h : k < t.size, ¬ Dig t[k]) := HM.out.2.2
      have hstep : ∀ j B : Nat, k ≤ j → j < 9 → B = pre (dg t k) (min j 9) → B * 10 = pre (dg t k) (min (j + 1) 9) ∧ B * 10 < 1000000000 := by
        intro j B h1 h2 h3
        have e1 : min (j + 1) 9 = j + 1 := by omega
        have e2 : min j 9 = j := by omega
        have e3 := pre_le_nine (dg t k) (dg_le t k HM.out) (j + 1) (by omega)
        rw [e2] at h3
        rw [pre_succ, dg_out t k j (by omega), ← h3] at e3
        rw [e1, pre_succ, dg_out t k j (by omega), ← h3]
        exact ⟨rfl, e3⟩
      have HS : Hid (∀ j B : Nat, k ≤ j → j < 9 → B = pre (dg t k) (min j 9) → B * 10 = pre (dg t k) (min (j + 1) 9) ∧ B * 10 < 1000000000) := hstep
      clear hstep
      by_cases hkt : k < t.size
      · have hki : (k : Int) < (t.size : Int) := by omega
        by_cases h0 : k = 0
        · subst h0
          go_wp2_with (go_at_call 19; refine (isD_no _ _ (HL.out hkt)).mono ?_; rintro e w' ⟨rfl, rfl⟩)
          go_loop [4, 5] (fun a i => ∃ j B : Nat, 0 ≤ j ∧ i = .int .i64 j ∧ a = .int .i64 B ∧ B < 1000000000 ∧ Hid (B = pre (dg t 0) (min j 9))) (fun _ i => 9 - (intOf i).toNat)
          case atStart => exact ⟨0, A, Nat.le_refl _, rfl, rfl, hA, HA⟩
          case round =>
            obtain ⟨j, B, hj, rfl, rfl, hB, HB⟩ := hrel
            by_cases hj9 : j < 9
            · go_wp2
              go_round
              case rel => exact ⟨j + 1, B * 10, by omega, by go_num, by go_num, (HS.out j B hj hj9 HB.out).2, (HS.out j B hj hj9 HB.out).1⟩
              case measure => simp [intOf]; omega
            · have hBe : B = pre (dg t 0) 9 := by
                have := HB.out
                rw [show min j 9 = 9 from by omega] at this
                exact this
              have HBe : Hid (B = pre (dg t 0) 9) := hBe
              clear hBe
              go_wp2
              go_ret
              refine ⟨ret_int HBe.out, ?_⟩
              first | rfl | (simp; done)
        · have h0i : ((k : Int) == 0) = false := by simp; omega
          have h0d : decide (0 < k) = true := by simp; omega
          go_wp2_with (go_at_call 19; refine (isD_no _ _ (HL.out hkt)).mono ?_; rintro e w' ⟨rfl, rfl⟩)
          go_loop [4, 5] (fun a i => ∃ j B : Nat, k ≤ j ∧ i = .int .i64 j ∧ a = .int .i64 B ∧ B < 1000000000 ∧ Hid (B = pre (dg t k) (min j 9))) (fun _ i => 9 - (intOf i).toNat)
          case atStart => exact ⟨k, A, Nat.le_refl _, rfl, rfl, hA, HA⟩
          case round =>
            obtain ⟨j, B, hj, rfl, rfl, hB, HB⟩ := hrel
            by_cases hj9 : j < 9
            · go_wp2
              go_round
              case rel => exact ⟨j + 1, B * 10, by omega, by go_num, by go_num, (HS.out j B hj hj9 HB.out).2, (HS.out j B hj hj9 HB.out).1⟩
              case measure => simp [intOf]; omega
            · have hBe : B = pre (dg t k) 9 := by
                have := HB.out
                rw [show min j 9 = 9 from by omega] at this
                exact this
              have HBe : Hid (B = pre (dg t k) 9) := hBe
              clear hBe
              go_wp2
              go_ret
              refine ⟨ret_int HBe.out, ?_⟩
              first | rfl | (simp; done)
      · by_cases h0 : k = 0
        · subst h0
          go_wp2
          go_loop [4, 5] (fun a i => ∃ j B : Nat, 0 ≤ j ∧ i = .int .i64 j ∧ a = .int .i64 B ∧ B < 1000000000 ∧ Hid (B = pre (dg t 0) (min j 9))) (fun _ i => 9 - (intOf i).toNat)
          case atStart => exact ⟨0, A, Nat.le_refl _, rfl, rfl, hA, HA⟩
          case round =>
            obtain ⟨j, B, hj, rfl, rfl, hB, HB⟩ := hrel
            by_cases hj9 : j < 9
            · go_wp2
              go_round
              case rel => exact ⟨j + 1, B * 10, by omega, by go_num, by go_num, (HS.out j B hj hj9 HB.out).2, (HS.out j B hj hj9 HB.out).1⟩
              case measure => simp [intOf]; omega
            · have hBe : B = pre (dg t 0) 9 := by
                have := HB.out
                rw [show min j 9 = 9 from by omega] at this
                exact this
              have HBe : Hid (B = pre (dg t 0) 9) := hBe
              clear hBe
              go_wp2
              go_ret
              refine ⟨ret_int HBe.out, ?_⟩
              first | rfl | (simp; done)
        · have h0i : ((k : Int) == 0) = false := by simp; omega
          have h0d : decide (0 < k) = true := by simp; omega
          go_wp2
          go_loop [4, 5] (fun a i => ∃ j B : Nat, k ≤ j ∧ i = .int .i64 j ∧ a = .int .i64 B ∧ B < 1000000000 ∧ Hid (B = pre (dg t k) (min j 9))) (fun _ i => 9 - (intOf i).toNat)
          case atStart => exact ⟨k, A, Nat.le_refl _, rfl, rfl, hA, HA⟩
          case round =>
            obtain ⟨j, B, hj, rfl, rfl, hB, HB⟩ := hrel
            by_cases hj9 : j < 9
            · go_wp2
              go_round
              case rel => exact ⟨j + 1, B * 10, by omega, by go_num, by go_num, (HS.out j B hj hj9 HB.out).2, (HS.out j B hj hj9 HB.out).1⟩
              case measure => simp [intOf]; omega
            · have hBe : B = pre (dg t k) 9 := by
                have := HB.out
                rw [show min j 9 = 9 from by omega] at this
                exact this
              have HBe : Hid (B = pre (dg t k) 9) := hBe
              clear hBe
              go_wp2
              go_ret
              refine ⟨ret_int HBe.out, ?_⟩
              first | rfl | (simp; done)

end Go.Proofs.Qxb6602167aMods
