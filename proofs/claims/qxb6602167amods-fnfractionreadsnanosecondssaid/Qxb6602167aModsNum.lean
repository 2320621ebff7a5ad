import Derived.Test.Qxb6602167aModsRows
import Derived.WalkKit
import Derived.ProofKit
import Derived.WalkLawsBesides
import Derived.Deep.QuietTactic
import Derived.BigQuiet
import Derived.Outline
namespace Go.Proofs.Qxb6602167aMods
open Go.ChangeShapes Go.WideShapes Go.ChangeAt Go.RowKit

theorem isD_yes (c : Int) (w : World) (h1 : (48 : Int) ≤ c) (h2 : c ≤ 57) : Calls Trym.prog 19 #[.int .u8 c] w fun e w' => e = .returned (.bool true) ∧ w' = w := by
  go_enter Trym.func19, Trym.ntmps19
  go_wp2
  go_ret
  exact ⟨rfl, rfl⟩
theorem isD_no (c : Int) (w : World) (h : ¬ ((48 : Int) ≤ c ∧ c ≤ 57)) : Calls Trym.prog 19 #[.int .u8 c] w fun e w' => e = .returned (.bool false) ∧ w' = w := by
  by_cases h1 : (48 : Int) ≤ c
  · have h2 : ¬ c ≤ 57 := fun h' => h ⟨h1, h'⟩
    clear h
    go_enter Trym.func19, Trym.ntmps19
    go_wp2
    go_ret
    exact ⟨rfl, rfl⟩
  · clear h
    go_enter Trym.func19, Trym.ntmps19
    go_wp2
    go_ret
    exact ⟨rfl, rfl⟩

set_option maxHeartbeats 400000 in
theorem num_short (s : ByteArray) (ok : Bool) (lim : Int) (w : World) (hs : s.size < 2) :
    Calls Trym.prog 17 #[.pointer (some ⟨w.heap.size, 0, none⟩), .int .i64 lim] (w.alloc (.cells #[.string s, .bool ok] 36)) fun e w' => e = .returned (.int .i64 0) ∧ w' = w.alloc (.cells #[.string s, .bool false] 36) := by
  have h1 : (s.size : Int) < 2 := by omega
  go_enter Trym.func17, Trym.ntmps17
  go_wp2
  go_ret
  exact ⟨rfl, rfl⟩

set_option maxHeartbeats 400000 in
theorem num_bad0 (s : ByteArray) (ok : Bool) (lim : Int) (w : World) (hs : 2 ≤ s.size) (hd : ¬ ((48 : Int) ≤ (s[0].toNat : Int) ∧ (s[0].toNat : Int) ≤ 57)) :
    Calls Trym.prog 17 #[.pointer (some ⟨w.heap.size, 0, none⟩), .int .i64 lim] (w.alloc (.cells #[.string s, .bool ok] 36)) fun e w' => e = .returned (.int .i64 0) ∧ w' = w.alloc (.cells #[.string s, .bool false] 36) := by
  have h1 : ¬ (s.size : Int) < 2 := by omega
  have h2 : (0 : Int) < s.size := by omega
  have HD : Hid (¬ ((48 : Int) ≤ (s[0].toNat : Int) ∧ (s[0].toNat : Int) ≤ 57)) := hd
  clear hd
  go_enter Trym.func17, Trym.ntmps17
  go_wp2_with (go_at_call 19; refine (isD_no _ _ HD.out).mono ?_; rintro e w' ⟨rfl, rfl⟩)
  go_ret
  exact ⟨rfl, rfl⟩

set_option maxHeartbeats 400000 in
theorem num_bad1 (s : ByteArray) (ok : Bool) (lim : Int) (w : World) (hs : 2 ≤ s.size) (ha : (48 : Int) ≤ (s[0].toNat : Int)) (hb : (s[0].toNat : Int) ≤ 57)
    (hd : ¬ ((48 : Int) ≤ (s[1].toNat : Int) ∧ (s[1].toNat : Int) ≤ 57)) :
    Calls Trym.prog 17 #[.pointer (some ⟨w.heap.size, 0, none⟩), .int .i64 lim] (w.alloc (.cells #[.string s, .bool ok] 36)) fun e w' => e = .returned (.int .i64 0) ∧ w' = w.alloc (.cells #[.string s, .bool false] 36) := by
  have h1 : ¬ (s.size : Int) < 2 := by omega
  have h2 : (0 : Int) < s.size := by omega
  have h3 : (1 : Int) < s.size := by omega
  have HA : Hid ((48 : Int) ≤ (s[0].toNat : Int) ∧ (s[0].toNat : Int) ≤ 57) := ⟨ha, hb⟩
  have HD : Hid (¬ ((48 : Int) ≤ (s[1].toNat : Int) ∧ (s[1].toNat : Int) ≤ 57)) := hd
  clear hd ha hb
  go_enter Trym.func17, Trym.ntmps17
  go_wp2_with fail
  refine (isD_yes _ _ HA.out.1 HA.out.2).mono ?_
  rintro e w' ⟨rfl, rfl⟩
  go_wp2_with fail
  refine (isD_no _ _ HD.out).mono ?_
  rintro e w' ⟨rfl, rfl⟩
  go_wp2
  go_ret
  exact ⟨rfl, rfl⟩

theorem sc_new (w : World) (c : Array Value) (t : TypeId) (i n : Nat) (v : Value) : ((w.alloc (.cells c t)).drewN n).setCell ⟨w.heap.size, i, none⟩ v = (w.alloc (.cells (c.setIfInBounds i v) t)).drewN n :=
  congrArg (fun x => World.drewN x n) (World.setCell_alloc_new (w := w) c t i v)

set_option maxHeartbeats 400000 in
theorem num_good (s : ByteArray) (ok : Bool) (lim : Int) (w : World) (hs : 2 ≤ s.size) (ha : (48 : Int) ≤ (s[0].toNat : Int)) (hb : (s[0].toNat : Int) ≤ 57)
    (hc : (48 : Int) ≤ (s[1].toNat : Int)) (hd : (s[1].toNat : Int) ≤ 57) :
    Calls Trym.prog 17 #[.pointer (some ⟨w.heap.size, 0, none⟩), .int .i64 lim] (w.alloc (.cells #[.string s, .bool ok] 36)) fun e w' => e = .returned (.int .i64 (((s[0].toNat : Int) - (48 : Int)) * (10 : Int) + ((s[1].toNat : Int) - (48 : Int)))) ∧ ∃ n, w' = (w.alloc (.cells #[.string (s.extract 2 s.size), .bool (ok && decide ((((s[0].toNat : Int) - (48 : Int)) * (10 : Int) + ((s[1].toNat : Int) - (48 : Int))) ≤ lim))] 36)).drewN n := by
  have h1 : ¬ (s.size : Int) < 2 := by omega
  have h2 : (0 : Int) < s.size := by omega
  have h3 : (1 : Int) < s.size := by omega
  have HA : Hid ((48 : Int) ≤ (s[0].toNat : Int) ∧ (s[0].toNat : Int) ≤ 57) := ⟨ha, hb⟩
  have HD : Hid ((48 : Int) ≤ (s[1].toNat : Int) ∧ (s[1].toNat : Int) ≤ 57) := ⟨hc, hd⟩
  go_enter Trym.func17, Trym.ntmps17
  go_wp2_with fail
  refine (isD_yes _ _ HA.out.1 HA.out.2).mono ?_
  rintro e w' ⟨rfl, rfl⟩
  go_wp2_with fail
  refine (isD_yes _ _ HD.out.1 HD.out.2).mono ?_
  rintro e w' ⟨rfl, rfl⟩
  go_wp2
  go_quiet (fail)
  by_cases hl : lim < (((s[0].toNat : Int) - (48 : Int)) * (10 : Int) + ((s[1].toNat : Int) - (48 : Int)))
  · have hf : decide ((((s[0].toNat : Int) - (48 : Int)) * (10 : Int) + ((s[1].toNat : Int) - (48 : Int))) ≤ lim) = false := by simp; omega
    go_wp2
    go_ret
    refine ⟨rfl, nq, ?_⟩
    rw [hf, sc_new, sc_new]
    simp
  · go_wp2
    go_ret
    refine ⟨rfl, nq, ?_⟩
    rw [sc_new]
    simp

end Go.Proofs.Qxb6602167aMods
