import Derived.Test.Qxb6602167aModsNum
import Derived.Laws.IdiomStrings
import Derived.Deep.RegionWith
namespace Go.Proofs.Qxb6602167aMods
open Go.ChangeShapes Go.WideShapes Go.ChangeAt Go.RowKit

/-- Two digits stand at the head of s. -/
def TwoD (s : ByteArray) : Prop := ∃ h : 2 ≤ s.size, ((48 : Int) ≤ (s[0].toNat : Int) ∧ (s[0].toNat : Int) ≤ 57) ∧ ((48 : Int) ≤ (s[1].toNat : Int) ∧ (s[1].toNat : Int) ≤ 57)

theorem num_bad (s : ByteArray) (ok : Bool) (lim : Int) (w : World) (h : ¬ TwoD s) :
    Calls Trym.prog 17 #[.pointer (some ⟨w.heap.size, 0, none⟩), .int .i64 lim] (w.alloc (.cells #[.string s, .bool ok] 36)) fun e w' => e = .returned (.int .i64 0) ∧ w' = w.alloc (.cells #[.string s, .bool false] 36) := by
  by_cases hs : 2 ≤ s.size
  · by_cases h0 : ((48 : Int) ≤ (s[0].toNat : Int) ∧ (s[0].toNat : Int) ≤ 57)
    · exact num_bad1 s ok lim w hs h0.1 h0.2 (fun h1 => h ⟨hs, h0, h1⟩)
    · exact num_bad0 s ok lim w hs h0
  · exact num_short s ok lim w (by omega)

set_option maxHeartbeats 400000 in
theorem zznum_bad (s : ByteArray) (ok : Bool) (lim : Int) (w : World) (h : ¬ TwoD s) :
    Calls Trym.prog 8 #[.string s, .bool ok, .int .i64 lim] w fun e w' => e = .returned (.tuple #[.string s, .bool false, .int .i64 0]) ∧ Below w.heap.size w w' := by
  have HD : Hid (¬ TwoD s) := h
  clear h
  go_enter Trym.func8, Trym.ntmps8
  go_wp2_with (go_at_call 17; refine (num_bad _ _ _ _ HD.out).mono ?_; rintro e w' ⟨rfl, rfl⟩)
  go_quiet (fail)
  go_wp2
  go_ret3
  exact ⟨rfl, (((Below.refl _ _).alloc (Nat.le_refl _) _)).trans ⟨rfl, rfl, rfl, Nat.le_refl _, fun _ _ => rfl⟩⟩

set_option maxHeartbeats 400000 in
theorem zznum_good (s : ByteArray) (ok : Bool) (lim : Int) (w : World) (hs : 2 ≤ s.size) (ha : (48 : Int) ≤ (s[0].toNat : Int)) (hb : (s[0].toNat : Int) ≤ 57)
    (hc : (48 : Int) ≤ (s[1].toNat : Int)) (hd : (s[1].toNat : Int) ≤ 57) :
    Calls Trym.prog 8 #[.string s, .bool ok, .int .i64 lim] w fun e w' => e = .returned (.tuple #[.string (s.extract 2 s.size), .bool (ok && decide ((((s[0].toNat : Int) - (48 : Int)) * (10 : Int) + ((s[1].toNat : Int) - (48 : Int))) ≤ lim)), .int .i64 (((s[0].toNat : Int) - (48 : Int)) * (10 : Int) + ((s[1].toNat : Int) - (48 : Int)))]) ∧ Below w.heap.size w w' := by
  go_enter Trym.func8, Trym.ntmps8
  go_wp2_with (go_at_call 17; refine (num_good _ _ _ _ hs ha hb hc hd).mono ?_; rintro e w' ⟨rfl, n, rfl⟩)
  go_quiet (fail)
  go_wp2
  go_ret3
  exact ⟨rfl, (((Below.refl _ _).alloc (Nat.le_refl _) _)).trans ⟨rfl, rfl, rfl, Nat.le_refl _, fun _ _ => rfl⟩⟩

/-- k written as two digits. -/
def two (k : Nat) : ByteArray := ⟨#[UInt8.ofNat (48 + k / 10), UInt8.ofNat (48 + k % 10)]⟩

theorem ofNat_toNat (n : Nat) (h : n < 256) : (((UInt8.ofNat n).toNat : Nat) : Int) = (n : Int) := by
  simp [UInt8.toNat_ofNat']
  omega

theorem conv_two (k : Nat) (w : World) (hk : k < 100) :
    Sem.run Trym.prog (convert 38 9 (.slice (some ⟨w.heap.size, 0, none⟩) 2 2)) (w.alloc (.cells #[.int .u8 (48 + (k : Int) / 10), .int .u8 (48 + (k : Int) % 10)] 5)) =
      .ok (.string (two k)) (w.alloc (.cells #[.int .u8 (48 + (k : Int) / 10), .int .u8 (48 + (k : Int) % 10)] 5)) := by
  refine run_convert_bytes_back (P := Trym.prog) _ 38 9 5 ⟨w.heap.size, 0, none⟩ 2 [UInt8.ofNat (48 + k / 10), UInt8.ofNat (48 + k % 10)] Trym.underlying38 Trym.underlying5 Trym.underlying9 ?_
  intro j hj
  have e0 := ofNat_toNat (48 + k / 10) (by omega)
  have e1 := ofNat_toNat (48 + k % 10) (by omega)
  match j, hj with
  | 0, _ =>
    show (w.alloc _).cell? ⟨w.heap.size, 0 + 0, none⟩ = _
    rw [World.cell?_alloc_mark]
    show some (Value.int .u8 _) = some (Value.int .u8 (((UInt8.ofNat (48 + k / 10)).toNat : Nat) : Int))
    rw [e0]
    simp
  | 1, _ =>
    show (w.alloc _).cell? ⟨w.heap.size, 0 + 1, none⟩ = _
    rw [World.cell?_alloc_mark]
    show some (Value.int .u8 _) = some (Value.int .u8 (((UInt8.ofNat (48 + k % 10)).toNat : Nat) : Int))
    rw [e1]
    simp

set_option maxHeartbeats 400000 in
theorem two_any (k : Nat) (w : World) (hk : k < 100) :
    Calls Trym.prog 10 #[.int .i64 k] w fun e w' => e = .returned (.string (two k)) ∧ Below w.heap.size w w' := by
  have hcv := conv_two k w hk
  go_enter Trym.func10, Trym.ntmps10
  go_wp2
  go_ret
  exact ⟨rfl, (Below.refl _ _).alloc (Nat.le_refl _) _⟩

/-- s opens with p. -/
def Opens (s p : ByteArray) : Prop := ∃ h : p.size ≤ s.size, ∀ j (hj : j < p.size), s[j].toNat = p[j].toNat

theorem drewN_below {B : Nat} {w wr : World} (n : Nat) (h : Below B w wr) : Below B w (wr.drewN n) := h.trans ⟨rfl, rfl, rfl, Nat.le_refl _, fun _ _ => rfl⟩

theorem hasAt_short (s p : ByteArray) (w : World) (hs : s.size ≤ 1048576) (h : s.size < p.size) :
    Calls Trym.prog 9 #[.string s, .int .i64 0, .string p] w fun e w' => e = .returned (.bool false) ∧ Below w.heap.size w w' := by
  have h1 : (s.size : Int) < (p.size : Int) := by omega
  go_enter Trym.func9, Trym.ntmps9
  go_wp2
  go_ret
  exact ⟨rfl, Below.refl _ _⟩

set_option maxHeartbeats 400000 in
theorem hasAt_long (s p : ByteArray) (w : World) (hs : s.size ≤ 1048576) (hp : p.size ≤ s.size) :
    Calls Trym.prog 9 #[.string s, .int .i64 0, .string p] w fun e w' => ∃ b : Bool, e = .returned (.bool b) ∧ (b = true ↔ Opens s p) ∧ Below w.heap.size w w' := by
  have h1 : (p.size : Int) ≤ (s.size : Int) := by omega
  go_enter Trym.func9, Trym.ntmps9
  go_wp2
  go_loopw [7] (fun i wr => ∃ k : Nat, k ≤ p.size ∧ i = .int .i64 k ∧ Hid (∀ j (hj : j < p.size), j < k → s[j].toNat = p[j].toNat) ∧ Below w.heap.size w wr) (fun i _ => p.size - (intOf i).toNat)
  case atStart => exact ⟨0, Nat.zero_le _, rfl, (fun j _ h => by omega), Below.refl _ _⟩
  case round =>
    obtain ⟨k, hk, rfl, hall, hb⟩ := hrel
    by_cases hlt : k < p.size
    · have hks : k < s.size := by omega
      have hi : (k : Int) < (p.size : Int) := by omega
      have hi2 : (k : Int) < (s.size : Int) := by omega
      go_wp2
      go_quiet (fail)
      go_wp2
      · have hne : ((s[k].toNat : Int) != (p[k].toNat : Int)) = true := by assumption
        go_ret
        refine ⟨false, rfl, ⟨(fun h => by cases h), fun h => ?_⟩, drewN_below _ hb⟩
        obtain ⟨_, h⟩ := h
        have := h k hlt
        rw [this] at hne
        simp at hne
      · have heq : ((s[k].toNat : Int) != (p[k].toNat : Int)) = false := by assumption
        go_roundw
        case rel =>
          refine ⟨k + 1, by omega, by go_num, ?_, drewN_below _ hb⟩
          intro j hj hjk
          by_cases e : j = k
          · subst e
            simp at heq
            omega
          · exact hall.out j hj (by omega)
        case measure => simp [intOf]; omega
    · go_wp2
      go_ret
      exact ⟨true, rfl, ⟨fun _ => ⟨hp, fun j hj => hall.out j hj (by omega)⟩, fun _ => rfl⟩, hb⟩

theorem hasAt_any (s p : ByteArray) (w : World) (hs : s.size ≤ 1048576) :
    Calls Trym.prog 9 #[.string s, .int .i64 0, .string p] w fun e w' => ∃ b : Bool, e = .returned (.bool b) ∧ (b = true ↔ Opens s p) ∧ Below w.heap.size w w' := by
  by_cases h : s.size < p.size
  · refine (hasAt_short s p w hs h).mono ?_
    rintro e w' ⟨rfl, hb⟩
    exact ⟨false, rfl, ⟨(fun h => by cases h), fun h' => by obtain ⟨h1, _⟩ := h'; omega⟩, hb⟩
  · exact hasAt_long s p w hs (by omega)

end Go.Proofs.Qxb6602167aMods
