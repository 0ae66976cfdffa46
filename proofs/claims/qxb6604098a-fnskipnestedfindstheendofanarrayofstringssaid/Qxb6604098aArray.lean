import Derived.Test.Qxb6604098aOpen
import Derived.Test.Qxb6604098aLaw6b
import Derived.Deep.Slices
namespace Go.Proofs.Qxb6604098a
open Go.ChangeShapes Go.WideShapes Go.ChangeAt Go.RowKit
set_option linter.unusedVariables false

theorem cells22 : Try.prog.cellsOf 22 = 1 := by kernel_rfl

section
variable {H : Type} {enc : TypeId × Value → H} {w : World} {base : Nat} {held : Bool}
/-- What is read as a slice of bytes is a slice value. -/
theorem trod_bytes_slice {fuel : Nat} {x : DataW H × List MemPlace} {v : Value} (hf : DataW.trod enc Try.prog w base (fun _ => true) held fuel 22 [v] = some x) : ∃ a l c, v = .slice a l c := by
  rcases open_ints Try.underlying22 Try.underlying5 cells5 hf with ⟨hcs, _⟩ | ⟨y, l, c, zs, hcs, _⟩
  · simp at hcs
    exact ⟨_, _, _, hcs⟩
  · simp at hcs
    exact ⟨_, _, _, hcs⟩

theorem open_texts {fuel : Nat} {x : DataW H × List MemPlace} {a0 : Option Addr} {len cap : Nat} (hf : DataW.trod enc Try.prog w base (fun _ => true) held fuel 31 [.slice a0 len cap] = some x) :
    ∃ b off aA lA cA bA oA C, IsTexts w a0 len b off aA lA cA bA oA C := by
  rcases Deep.open_slice1 Try.underlying31 cells22 hf with ⟨hcs, _⟩ | ⟨a, l, c, m, n, V, D, Pl, hcs, _, hl, _, hm, _, hx⟩
  · simp at hcs
    obtain ⟨rfl, rfl, rfl⟩ := hcs
    exact ⟨0, 0, fun _ => none, fun _ => 0, fun _ => 0, fun _ => 0, fun _ => 0, fun _ _ => 0, fun h => by omega, fun i hi => by omega, fun i hi => by omega⟩
  · simp at hcs
    obtain ⟨rfl, rfl, rfl⟩ := hcs
    simp only [if_true] at hm
    subst hm
    have key : ∀ i, ∃ q : Option Addr × Nat × Nat × Nat × Nat × (Nat → Int), i < len → V i = .slice q.1 q.2.1 q.2.2.1 ∧ IsBytes w q.1 q.2.1 q.2.2.2.1 q.2.2.2.2.1 q.2.2.2.2.2 := by
      intro i
      by_cases hi : i < len
      · have h2 := (hx i (by omega)).2
        obtain ⟨ai, li, ci, hv⟩ := trod_bytes_slice h2
        rw [hv] at h2
        obtain ⟨_, bi, oi, Bi, hB⟩ := open_bytes_cells h2
        exact ⟨(ai, li, ci, bi, oi, Bi), fun _ => ⟨hv, hB⟩⟩
      · exact ⟨(none, 0, 0, 0, 0, fun _ => 0), fun h => absurd h hi⟩
    let q := fun i => (key i).choose
    have hq : ∀ i, i < len → V i = .slice (q i).1 (q i).2.1 (q i).2.2.1 ∧ IsBytes w (q i).1 (q i).2.1 (q i).2.2.2.1 (q i).2.2.2.2.1 (q i).2.2.2.2.2 := fun i => (key i).choose_spec
    have hsp : 0 < len → a.spot = none := fun h => World.cell?_spot (a := a) (by simpa [Addr.add] using (hx 0 (by omega)).1)
    refine ⟨a.block, a.off, fun i => (q i).1, fun i => (q i).2.1, fun i => (q i).2.2.1, fun i => (q i).2.2.2.1, fun i => (q i).2.2.2.2.1, fun i => (q i).2.2.2.2.2, fun h => ?_, fun i hi => ?_, fun i hi => (hq i hi).2⟩
    · have h0 := hsp h
      obtain ⟨b, off, sp⟩ := a
      have hsp : sp = none := h0
      rw [hsp]
    · have h0 := hsp (by omega)
      have h1 := (hx i (by omega)).1
      rw [(hq i hi).1] at h1
      obtain ⟨b, off, sp⟩ := a
      have hsp : sp = none := h0
      subst hsp
      rwa [Addr.add_mid] at h1
end

set_option maxRecDepth 100000 in
theorem lifted6 (os : Os) (started : os.Started) (H : Type) (enc : TypeId × Value → H) :
    ReturnsInHanded {} Try.checked os 6 .any (Rows.fnSkipNestedFindsTheEndOfAnArrayOfStringsSpec.pre6 enc Try.prog Try.f6 Rows.fnSkipNestedFindsTheEndOfAnArrayOfStringsRow.domain false) (Rows.fnSkipNestedFindsTheEndOfAnArrayOfStringsSpec.post enc Try.prog Try.f6 false true false false) := by
  refine returnsInHanded_of_change (C := Try.checked) own started (by kernel_rfl) Try.func6
    (ChangeSpec.witness6 (enc := enc) (C := Try.checked) false ⟨#[], #[.slice none 0 0, .int .i64 0, .slice none 0 0], []⟩ 8 (by kernel_rfl) (by kernel_rfl) (by kernel_rfl) (by kernel_rfl)) ?_
  intro W base args ds gs before hval0 hW hcnd _
  have hval : ∀ (j : Nat) t v, Try.f6.params[j]? = some t → args[j]? = some v → Value.okWide Try.prog W .any base t v := hval0
  have hW' := hW
  obtain ⟨p, q, hA0, hV, rfl, hfz, hnd⟩ := hW
  have hA : DataW.TrodAll enc Try.prog W 0 (fun _ => true) true Try.f6.params.toList args.toList ds p := hA0
  rw [Try.params6] at hA hval
  obtain ⟨v0, vs0, d0, ds0, p0, q0, hargs, rfl, rfl, h0, r0⟩ := trodAll_cons hA
  obtain ⟨v1, vs1, d1, ds1, p1, q1, rfl, rfl, rfl, h1, r1⟩ := trodAll_cons r0
  obtain ⟨v2, vs2, d2, ds2, p2, q2, rfl, rfl, rfl, h2, r2⟩ := trodAll_cons r1
  obtain ⟨rfl, rfl, rfl⟩ := trodAll_nil r2
  obtain rfl : args = #[v0, v1, v2] := by cases args; simp_all
  obtain ⟨rfl, rfl⟩ := trodVars_none hV
  obtain ⟨a0, len0, cap0, rfl⟩ := okWide_slice Try.underlying31 (hval 0 31 v0 rfl rfl)
  have k0 := h0
  have lt0 : ∀ x ∈ p0, x.block < W.heap.size := by obtain ⟨m, hm⟩ := k0; exact DataW.trod_lt m _ _ _ hm
  obtain ⟨b0, o0, aA, lA, cA, bA, oA, C, hX⟩ : ∃ b off aA lA cA bA oA C, IsTexts W a0 len0 b off aA lA cA bA oA C := by obtain ⟨m, hm⟩ := h0; exact open_texts (by simpa [Value.cells] using hm)
  have k1 := h1
  have lt1 : ∀ x ∈ p1, x.block < W.heap.size := by obtain ⟨m, hm⟩ := k1; exact DataW.trod_lt m _ _ _ hm
  obtain ⟨nest, rfl, rfl, rfl, wa⟩ := open_int Try.underlying3 (hval 1 3 v1 rfl rfl) h1
  obtain ⟨a2, len2, cap2, rfl⟩ := okWide_slice Try.underlying22 (hval 2 22 v2 rfl rfl)
  have k2 := h2
  have lt2 : ∀ x ∈ p2, x.block < W.heap.size := by obtain ⟨m, hm⟩ := k2; exact DataW.trod_lt m _ _ _ hm
  obtain ⟨hn2, b2, o2, B2, hB2⟩ : (a2 = none → len2 = 0 ∧ cap2 = 0) ∧ ∃ b off B, IsBytes W a2 len2 b off B := by obtain ⟨m, hm⟩ := h2; exact open_bytes_cells (by simpa [Value.cells] using hm)
  clear hA0 hval0
  refine (law6_any a0 a2 len0 cap0 len2 cap2 b0 o0 b2 o2 nest aA lA cA bA oA C B2 W hX hB2).mono fun e W' ⟨he, bel⟩ => ?_
  subst he
  exact ⟨_, rfl, _, _, _, [], _, [], hW', trodAll_mk1 (shut_bool Try.underlying4 _), (trodAll_cons_mk (Below.trod laidOut (by kernel_rfl) (of_decide_eq_true (by kernel_rfl)) k0 bel lt0) (trodAll_cons_mk (Below.trod laidOut (by kernel_rfl) (of_decide_eq_true (by kernel_rfl)) k1 bel lt1) (trodAll_cons_mk (Below.trod laidOut (by kernel_rfl) (of_decide_eq_true (by kernel_rfl)) k2 bel lt2) trodAll_mk0))), rfl, bel.frame _, fun h => by cases h⟩

/-- ████ THE STATEMENT ████ -/
theorem skipNestedFindsTheEndOfAnArrayOfStrings : Rows.FnSkipNestedFindsTheEndOfAnArrayOfStringsSaid :=
  OpenClaim.holds_of_wide 6 Try.f6 rfl rfl rfl rfl rfl rfl rfl ⟨rfl, rfl, rfl, rfl, rfl⟩ rfl rfl rfl rfl rfl (by kernel_rfl) Try.func6 (by kernel_rfl)
    (of_decide_eq_true (by kernel_rfl)) (by unfold Func.isWrapper; first | (rw [if_pos (by decide +kernel)]; kernel_rfl) | (rw [if_neg (by decide +kernel)]; exact ⟨rfl, rfl⟩))
    (fun os started H enc _ => lifted6 os started H enc)
end Go.Proofs.Qxb6604098a
