import Derived.Test.Qxb6604013aOpen
import Derived.Test.Qxb6604013aRoomLaw
namespace Go.Proofs.Qxb6604013a
open Go.ChangeShapes Go.WideShapes Go.ChangeAt Go.RowKit
set_option linter.unusedVariables false

/-! ### FnFillLeavesRoomBehindUntouched -/
theorem isCellsO_of {w : World} {a0 : Option Addr} {len cap : Nat} (h : (a0 = none ∧ len = 0 ∧ cap = 0) ∨ ∃ ad Z, a0 = some ad ∧ IsCells w ad len Z) : ∃ Z, IsCellsO w a0 len Z := by
  rcases h with ⟨rfl, rfl, rfl⟩ | ⟨⟨b, off, sp⟩, Z, rfl, hZ⟩
  · exact ⟨fun _ => (0, 0, 0, 0, 0), fun i hi => by omega⟩
  · refine ⟨Z, fun i hi => ?_⟩
    obtain ⟨hs, hr⟩ := hZ i hi
    have hs' : sp = none := hs
    subst hs'
    exact ⟨b, off, rfl, hr⟩

theorem walk6 (a0 : Option Addr) (l0 c0 : Nat) (a1 : Option Addr) (l1 c1 : Nat) (r fg bg a m : Int) (w : World) (h0 : (a0 = none ∧ l0 = 0 ∧ c0 = 0) ∨ ∃ ad Z, a0 = some ad ∧ IsCells w ad l0 Z)
    (h1 : (a1 = none ∧ l1 = 0 ∧ c1 = 0) ∨ ∃ ad Z, a1 = some ad ∧ IsCells w ad l1 Z) :
    Calls Try.prog 6 #[.slice a0 l0 c0, .slice a1 l1 c1, .agg #[.int .i32 r, .int .u32 fg, .int .u32 bg, .int .u8 a, .int .u32 m]] w fun e w' => e = .returned (.bool true) ∧ Below w.heap.size w w' := by
  by_cases hl : l0 + l1 ≤ 52428
  · obtain ⟨Z0, hZ0⟩ := isCellsO_of h0
    obtain ⟨Z1, hZ1⟩ := isCellsO_of h1
    exact law6_main r fg bg a m a0 a1 l0 c0 l1 c1 Z0 Z1 w hl hZ0 hZ1
  · exact law6_big r fg bg a m a0 a1 l0 c0 l1 c1 w (by omega)

set_option maxRecDepth 100000 in
theorem lifted6 (os : Os) (started : os.Started) (H : Type) (enc : TypeId × Value → H) :
    ReturnsInHanded {} Try.checked os 6 .any (Rows.fnFillLeavesRoomBehindUntouchedSpec.pre6 enc Try.prog Try.f6 Rows.fnFillLeavesRoomBehindUntouchedRow.domain false) (Rows.fnFillLeavesRoomBehindUntouchedSpec.post enc Try.prog Try.f6 false true false false) := by
  refine returnsInHanded_of_change (C := Try.checked) own started (by kernel_rfl) Try.func6
    (ChangeSpec.witness6 (enc := enc) (C := Try.checked) false ⟨#[], #[.slice none 0 0, .slice none 0 0, .agg #[.int .i32 0, .int .u32 0, .int .u32 0, .int .u8 0, .int .u32 0]], []⟩ 8 (by kernel_rfl) (by kernel_rfl) (by kernel_rfl) (by kernel_rfl)) ?_
  intro W base args ds gs before hval0 hW hcnd _
  have hval : ∀ (j : Nat) t v, Try.f6.params[j]? = some t → args[j]? = some v → Value.okWide Try.prog W .any base t v := hval0
  have hW' := hW
  obtain ⟨p, q, hA0, hV, rfl, hfz, hnd⟩ := hW
  have hA : DataW.TrodAll enc Try.prog W 0 (fun _ => true) true Try.f6.params.toList args.toList ds p := hA0
  rw [Try.params6] at hA hval
  obtain ⟨v0, vs0, d0, ds0, p0, q0, hargs, rfl, rfl, h0, r0⟩ := trodAll_cons hA
  obtain ⟨v1, vs1, d1, ds1, p1, q1, rfl, rfl, rfl, h1, r1⟩ := trodAll_cons r0
  obtain ⟨v2, vs2, d2, ds2, p2, q2, rfl, rfl, rfl, h2, r2⟩ := trodAll_cons r1
  obtain ⟨rfl, rfl, rfl⟩ := trodAll_nil r2
  obtain rfl : args = #[v0, v1, v2] := by cases args; simp_all
  obtain ⟨rfl, rfl⟩ := trodVars_none hV
  obtain ⟨a0, len0, cap0, rfl⟩ := okWide_slice Try.underlying58 (hval 0 58 v0 rfl rfl)
  have k0 := h0
  have lt0 : ∀ x ∈ p0, x.block < W.heap.size := by obtain ⟨m, hm⟩ := k0; exact DataW.trod_lt m _ _ _ hm
  have w0 := open_zcells h0
  obtain ⟨a1, len1, cap1, rfl⟩ := okWide_slice Try.underlying58 (hval 1 58 v1 rfl rfl)
  have k1 := h1
  have lt1 : ∀ x ∈ p1, x.block < W.heap.size := by obtain ⟨m, hm⟩ := k1; exact DataW.trod_lt m _ _ _ hm
  have w1 := open_zcells h1
  have k2 := h2
  have lt2 : ∀ x ∈ p2, x.block < W.heap.size := by obtain ⟨m, hm⟩ := k2; exact DataW.trod_lt m _ _ _ hm
  obtain ⟨r, fg, bg, a, m, rfl⟩ := open_zcell (hval 2 60 v2 rfl rfl) h2
  clear hA0 hval0
  refine (walk6 a0 len0 cap0 a1 len1 cap1 r fg bg a m W w0 w1).mono fun e W' ⟨he, bel⟩ => ?_
  subst he
  exact ⟨_, rfl, _, _, _, [], _, [], hW', trodAll_mk1 (shut_bool Try.underlying4 _), (trodAll_cons_mk (Below.trod laidOut (by kernel_rfl) (of_decide_eq_true (by kernel_rfl)) k0 bel lt0) (trodAll_cons_mk (Below.trod laidOut (by kernel_rfl) (of_decide_eq_true (by kernel_rfl)) k1 bel lt1) (trodAll_cons_mk (Below.trod laidOut (by kernel_rfl) (of_decide_eq_true (by kernel_rfl)) k2 bel lt2) trodAll_mk0))), rfl, bel.frame _, fun h => by cases h⟩

/-- ████ THE STATEMENT ████ -/
theorem fillLeavesRoomBehindUntouched : Rows.FnFillLeavesRoomBehindUntouchedSaid :=
  OpenClaim.holds_of_wide 6 Try.f6 rfl rfl rfl rfl rfl rfl rfl ⟨rfl, rfl, rfl, rfl, rfl⟩ rfl rfl rfl rfl rfl (by kernel_rfl) Try.func6 (by kernel_rfl)
    (of_decide_eq_true (by kernel_rfl)) (by unfold Func.isWrapper; first | (rw [if_pos (by decide +kernel)]; kernel_rfl) | (rw [if_neg (by decide +kernel)]; exact ⟨rfl, rfl⟩))
    (fun os started H enc _ => lifted6 os started H enc)
end Go.Proofs.Qxb6604013a
