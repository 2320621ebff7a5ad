/-
  'Rows.FnCutIsFirstZeroWindowHashSaid' PROVED. The frame is the guide's own for a law over slices (howto/shells), turned to this function's five parameters; the walk: Qxb6602310aModsPlain, Cut to Cut4.
-/
import Derived.Test.Qxb6602310aModsRows
import Derived.Test.Qxb6602310aModsCut4
import Derived.WalkKit
import Derived.ProofKit
import Derived.OpenShut
import Derived.ShutString
import Derived.ChangeOld
import Derived.Below
namespace Go.Proofs.Qxb6602310aMods.fnCutIsFirstZeroWindowHash
open Go.ChangeShapes Go.WideShapes Go.ChangeAt Go.RowKit
set_option linter.unusedVariables false

theorem own : ownKnob Trym.prog.godebug = none := by kernel_rfl
theorem laidOut : laidOutB Trym.prog = true := by kernel_rfl

def numOf : Option Value → Nat
  | some (.int _ n) => n.toNat
  | _ => 0

theorem gear_of (A : Array Value) (hs : A.size = 256) (h : ∀ i, i < 256 → ∃ n, A[i]? = some (.int .u64 n) ∧ (Lit.int .u64 n).wf = true) : ∃ G, IsGear A G := by
  refine ⟨fun i => numOf A[i]?, fun i hi => ?_, fun i => ?_⟩
  · obtain ⟨n, hn, hw⟩ := h i hi
    have hb := bounds_u64 hw
    have e : numOf A[i]? = n.toNat := by rw [hn]; rfl
    show A[i]? = some (Value.int .u64 ((numOf A[i]? : Nat) : Int))
    rw [e, hn, Int.toNat_of_nonneg hb.1]
  · show numOf A[i]? < _
    by_cases hi : i < 256
    · obtain ⟨n, hn, hw⟩ := h i hi
      have hb := bounds_u64 hw
      rw [hn]
      show n.toNat < _
      omega
    · rw [Array.getElem?_eq_none (by omega)]
      exact Nat.two_pow_pos 64

theorem bytes_of (W : World) (x : Addr) (n c : Nat) (zs : List Int) (hl : n ≤ c) (hz : zs.length = c) (hcell : ∀ i, i < zs.length → W.cell? (x.add i) = some (.int .u8 (zs.getD i 0))) (hw : ∀ q ∈ zs, (Lit.int .u8 q).wf = true) : IsBytes W (some x) n c := by
  by_cases hn : n = 0
  · exact .inr (.inl ⟨x, rfl, hn⟩)
  · obtain ⟨b, off, spot⟩ := x
    have hspot : spot = none := by simpa [Addr.add] using World.cell?_spot (hcell 0 (by omega))
    subst hspot
    have hr : ∀ i, 0 ≤ zs.getD i 0 ∧ zs.getD i 0 ≤ 255 := fun i => range_u8 hw i
    have hc : ∀ i, i < n → W.cell? ⟨b, off + i, none⟩ = some (.int .u8 (((zs.getD i 0).toNat : Nat) : Int)) := fun i hi => by
      have h := hcell i (by omega)
      rw [Int.toNat_of_nonneg (hr i).1]
      unfold Addr.add at h
      split at h
      · simp_all
      · exact h
    refine .inr (.inr ⟨b, off, fun i => (zs.getD i 0).toNat, rfl, by omega, ?_, hc, fun i => by show (zs.getD i 0).toNat < 256; have := hr i; omega⟩)
    exact World.block_lt_of_cell? W _ (hc 0 (by omega))

set_option maxHeartbeats 400000 in
set_option maxRecDepth 100000 in
theorem lifted (os : Os) (started : os.Started) (H : Type) (enc : TypeId × Value → H) :
    ReturnsInHanded {} Trym.checked os 3 .any (Rows.fnCutIsFirstZeroWindowHashSpec.pre6 enc Trym.prog Trym.f3 Rows.fnCutIsFirstZeroWindowHashRow.domain false) (Rows.fnCutIsFirstZeroWindowHashSpec.post enc Trym.prog Trym.f3 false true false false) := by
  refine returnsInHanded_of_change (C := Trym.checked) own started (by kernel_rfl) Trym.func3
    (ChangeSpec.witness6 (enc := enc) (C := Trym.checked) false ⟨#[], #[.int .i64 0, .int .i64 0, .agg (Array.replicate 256 (.int .u64 0)), .slice none 0 0, .slice none 0 0], []⟩ 8 (by kernel_rfl) (by kernel_rfl) (by kernel_rfl) (by kernel_rfl)) ?_
  intro W base args ds gs before hval0 hW hcnd _
  have hval : ∀ (j : Nat) t v, Trym.f3.params[j]? = some t → args[j]? = some v → Value.okWide Trym.prog W .any base t v := hval0
  have hW' := hW
  obtain ⟨p, q, hA0, hV, rfl, hfz, hnd⟩ := hW
  have hA : DataW.TrodAll enc Trym.prog W 0 (fun _ => true) true Trym.f3.params.toList args.toList ds p := hA0
  rw [Trym.params3] at hA hval
  obtain ⟨v0, vs0, d0, ds0, p0, q0, hargs, rfl, rfl, h0, r0⟩ := trodAll_cons hA
  obtain ⟨v1, vs1, d1, ds1, p1, q1, rfl, rfl, rfl, h1, r1⟩ := trodAll_cons r0
  obtain ⟨v2, vs2, d2, ds2, p2, q2, rfl, rfl, rfl, h2, r2⟩ := trodAll_cons r1
  obtain ⟨v3, vs3, d3, ds3, p3, q3, rfl, rfl, rfl, h3, r3⟩ := trodAll_cons r2
  obtain ⟨v4, vs4, d4, ds4, p4, q4, rfl, rfl, rfl, h4, r4⟩ := trodAll_cons r3
  obtain ⟨rfl, rfl, rfl⟩ := trodAll_nil r4
  obtain rfl : args = #[v0, v1, v2, v3, v4] := by cases args; simp_all
  obtain ⟨rfl, rfl⟩ := trodVars_none hV
  obtain ⟨a0, rfl, rfl, rfl, w0⟩ := open_int Trym.underlying3 (hval 0 3 v0 rfl rfl) h0
  obtain ⟨a1, rfl, rfl, rfl, w1⟩ := open_int Trym.underlying3 (hval 1 3 v1 rfl rfl) h1
  have k2 := h2
  have lt2 : ∀ x ∈ p2, x.block < W.heap.size := by obtain ⟨m, hm⟩ := k2; exact DataW.trod_lt m _ _ _ hm
  obtain ⟨A, rfl, hAs⟩ : ∃ A : Array Value, v2 = .agg A ∧ A.size = 256 := by
    have hv := hval 2 23 v2 rfl rfl
    have hc : Trym.prog.cellsOf 23 = 256 := by kernel_rfl
    obtain ⟨cs, h1, h2, _⟩ : ∃ cs, v2 = .agg cs ∧ cs.size = Trym.prog.cellsOf 23 ∧ Row.okWide Trym.prog W .any base 23 cs := by
      simpa [Value.okWide, Trym.underlying23] using hv
    exact ⟨cs, h1, h2.trans hc⟩
  obtain ⟨G, w2⟩ : ∃ G, IsGear A G := by
    refine gear_of A hAs fun i hi => ?_
    obtain ⟨fuel, hf⟩ := h2
    obtain ⟨xs, m, _, _, _, hl, hx⟩ := DataW.trod_array Trym.underlying23 hf
    have hc1 : Trym.prog.cellsOf 22 = 1 := by kernel_rfl
    have hxi := hx i hi
    rw [hc1, Nat.mul_one] at hxi
    obtain ⟨n, hn, _, hw⟩ := DataW.trod_int Trym.underlying22 (hxi.trans (List.getElem?_eq_getElem (by omega)))
    refine ⟨n, ?_, hw⟩
    have e : ((A.toList.drop i).take 1)[0]? = some (Value.int .u64 n) := by
      have hn' : (A.toList.drop i).take 1 = [Value.int .u64 n] := by simpa [Value.cells] using hn
      rw [hn']
      rfl
    rw [List.getElem?_take_of_lt (by omega), List.getElem?_drop] at e
    simpa using e
  obtain ⟨a3, len3, cap3, rfl⟩ := okWide_slice Trym.underlying24 (hval 3 24 v3 rfl rfl)
  have k3 := h3
  have lt3 : ∀ x ∈ p3, x.block < W.heap.size := by obtain ⟨m, hm⟩ := k3; exact DataW.trod_lt m _ _ _ hm
  have w3 : IsBytes W a3 len3 cap3 := by
    obtain ⟨fuel, hf⟩ := h3
    rcases open_ints Trym.underlying24 Trym.underlying5 (by kernel_rfl) hf with ⟨hcs, _⟩ | ⟨x, l, c, zs, hcs, _, hl, hm, hz, _, hcell, hwz⟩
    · simp [Value.cells] at hcs
      obtain ⟨rfl, rfl, rfl⟩ := hcs
      exact .inl ⟨rfl, rfl, rfl⟩
    · simp [Value.cells] at hcs
      obtain ⟨rfl, rfl, rfl⟩ := hcs
      exact bytes_of W x len3 cap3 zs hl (by simpa using hz) hcell hwz
  obtain ⟨a4, len4, cap4, rfl⟩ := okWide_slice Trym.underlying24 (hval 4 24 v4 rfl rfl)
  have k4 := h4
  have lt4 : ∀ x ∈ p4, x.block < W.heap.size := by obtain ⟨m, hm⟩ := k4; exact DataW.trod_lt m _ _ _ hm
  have w4 : IsBytes W a4 len4 cap4 := by
    obtain ⟨fuel, hf⟩ := h4
    rcases open_ints Trym.underlying24 Trym.underlying5 (by kernel_rfl) hf with ⟨hcs, _⟩ | ⟨x, l, c, zs, hcs, _, hl, hm, hz, _, hcell, hwz⟩
    · simp [Value.cells] at hcs
      obtain ⟨rfl, rfl, rfl⟩ := hcs
      exact .inl ⟨rfl, rfl, rfl⟩
    · simp [Value.cells] at hcs
      obtain ⟨rfl, rfl, rfl⟩ := hcs
      exact bytes_of W x len4 cap4 zs hl (by simpa using hz) hcell hwz
  clear hA0 hval0
  refine (law_any A G hAs w2 a0 a1 a3 a4 len3 cap3 len4 cap4 W w3 w4).mono fun e W' ⟨he, bel⟩ => ?_
  subst he
  exact ⟨_, rfl, _, _, _, [], _, [], hW', trodAll_mk1 (shut_bool Trym.underlying4 _),
    (trodAll_cons_mk (shut_int Trym.underlying3 w0) (trodAll_cons_mk (shut_int Trym.underlying3 w1) (trodAll_cons_mk (Below.trod laidOut (by kernel_rfl) (of_decide_eq_true (by kernel_rfl)) k2 bel lt2) (trodAll_cons_mk (Below.trod laidOut (by kernel_rfl) (of_decide_eq_true (by kernel_rfl)) k3 bel lt3) (trodAll_cons_mk (Below.trod laidOut (by kernel_rfl) (of_decide_eq_true (by kernel_rfl)) k4 bel lt4) trodAll_mk0))))), rfl, bel.frame _, fun h => by cases h⟩

theorem over : Rows.fnCutIsFirstZeroWindowHashRow.holds Trym.pinned (OpenSpec.ofChange Rows.fnCutIsFirstZeroWindowHashSpec) :=
  OpenClaim.holds_of_wide 3 Trym.f3 rfl rfl rfl rfl rfl rfl rfl ⟨rfl, rfl, rfl, rfl, rfl⟩ rfl rfl rfl rfl rfl (by kernel_rfl) Trym.func3 (by kernel_rfl)
    (of_decide_eq_true (by kernel_rfl)) (by unfold Func.isWrapper; first | (rw [if_pos (by decide +kernel)]; kernel_rfl) | (rw [if_neg (by decide +kernel)]; exact ⟨rfl, rfl⟩))
    (fun os started H enc _ => lifted os started H enc)

/-- THE STATEMENT -/
theorem proved : Rows.FnCutIsFirstZeroWindowHashSaid :=
  over
#print axioms proved
end Go.Proofs.Qxb6602310aMods.fnCutIsFirstZeroWindowHash
