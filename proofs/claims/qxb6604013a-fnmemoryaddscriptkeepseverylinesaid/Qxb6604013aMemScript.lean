import Derived.Test.Qxb6604013aOpen2
import Derived.Test.Qxb6604013aScript6
import Derived.Deep.Slices
namespace Go.Proofs.Qxb6604013a
open Go.ChangeShapes Go.WideShapes Go.ChangeAt Go.RowKit
set_option linter.unusedVariables false

theorem cells22 : Try.prog.cellsOf 22 = 1 := by kernel_rfl
theorem cells23 : Try.prog.cellsOf 23 = 1 := by kernel_rfl

section
variable {H : Type} {enc : TypeId × Value → H} {w : World} {base : Nat} {held : Bool}
theorem trod_slice {t e : TypeId} {fuel : Nat} {x : DataW H × List MemPlace} {v : Value} (ht : Try.prog.underlying t = some (.slice e)) (hf : DataW.trod enc Try.prog w base (fun _ => true) held fuel t [v] = some x) : ∃ a l c, v = .slice a l c := by
  rcases Deep.open_slice ht hf with ⟨hcs, _⟩ | ⟨a, l, c, m, n, D, Pl, hcs, _⟩
  · simp at hcs
    exact ⟨_, _, _, hcs⟩
  · simp at hcs
    exact ⟨_, _, _, hcs⟩

/-- A slice of slices, opened: Q tells of each of them. -/
theorem open_row2 {t e : TypeId} {fuel : Nat} {x : DataW H × List MemPlace} {a0 : Option Addr} {len cap : Nat} {e' : TypeId} {α : Type} (z : α) (ht : Try.prog.underlying t = some (.slice e)) (he : Try.prog.underlying e = some (.slice e')) (hc : Try.prog.cellsOf e = 1)
    (Q : Option Addr → Nat → Nat → Nat → Nat → α → Prop) (hQ : ∀ n y a l c, DataW.trod enc Try.prog w base (fun _ => true) held n e [.slice a l c] = some y → ∃ b off B, Q a l c b off B)
    (hf : DataW.trod enc Try.prog w base (fun _ => true) held fuel t [.slice a0 len cap] = some x) :
    (a0 = none → len = 0 ∧ cap = 0) ∧ ∃ (b off : Nat) (aA : Nat → Option Addr) (lA cA bA oA : Nat → Nat) (B : Nat → α), IsRow2 w a0 len b off aA lA cA ∧ ∀ i, i < len → Q (aA i) (lA i) (cA i) (bA i) (oA i) (B i) := by
  rcases Deep.open_slice1 ht hc hf with ⟨hcs, _⟩ | ⟨a, l, c, m, n, V, D, Pl, hcs, _, hl, _, hm, _, hx⟩
  · simp at hcs
    obtain ⟨rfl, rfl, rfl⟩ := hcs
    exact ⟨fun _ => ⟨rfl, rfl⟩, 0, 0, fun _ => none, fun _ => 0, fun _ => 0, fun _ => 0, fun _ => 0, fun _ => z, ⟨fun h => by omega, fun i hi => by omega⟩, fun i hi => by omega⟩
  · simp at hcs
    obtain ⟨rfl, rfl, rfl⟩ := hcs
    simp only [if_true] at hm
    subst hm
    have key : ∀ i, ∃ q : Option Addr × Nat × Nat × Nat × Nat × α, i < len → V i = .slice q.1 q.2.1 q.2.2.1 ∧ Q q.1 q.2.1 q.2.2.1 q.2.2.2.1 q.2.2.2.2.1 q.2.2.2.2.2 := by
      intro i
      by_cases hi : i < len
      · have h2 := (hx i (by omega)).2
        obtain ⟨ai, li, ci, hv⟩ := trod_slice he h2
        rw [hv] at h2
        obtain ⟨bi, oi, Bi, hB⟩ := hQ _ _ _ _ _ h2
        exact ⟨(ai, li, ci, bi, oi, Bi), fun _ => ⟨hv, hB⟩⟩
      · exact ⟨(none, 0, 0, 0, 0, z), fun h => absurd h hi⟩
    let q := fun i => (key i).choose
    have hq : ∀ i, i < len → V i = .slice (q i).1 (q i).2.1 (q i).2.2.1 ∧ Q (q i).1 (q i).2.1 (q i).2.2.1 (q i).2.2.2.1 (q i).2.2.2.2.1 (q i).2.2.2.2.2 := fun i => (key i).choose_spec
    have hsp : 0 < len → a.spot = none := fun h => by
      have h1 := (hx 0 (by omega)).1
      exact World.cell?_spot (a := a) (by simpa [Addr.add] using h1)
    refine ⟨(fun h => by cases h), a.block, a.off, fun i => (q i).1, fun i => (q i).2.1, fun i => (q i).2.2.1, fun i => (q i).2.2.2.1, fun i => (q i).2.2.2.2.1, fun i => (q i).2.2.2.2.2, ⟨fun h => ?_, fun i hi => ?_⟩, fun i hi => (hq i hi).2⟩
    · have h0 := hsp h
      obtain ⟨b, off, sp⟩ := a
      have hsp : sp = none := h0
      rw [hsp]
    · have h0 := hsp (by omega)
      have h1 := (hx i (by omega)).1
      rw [(hq i hi).1] at h1
      obtain ⟨b, off, sp⟩ := a
      have hsp : sp = none := h0
      subst hsp
      rwa [Addr.add_mid] at h1
end

set_option maxRecDepth 100000 in
theorem lifted4 (os : Os) (started : os.Started) (H : Type) (enc : TypeId × Value → H) :
    ReturnsInHanded {} Try.checked os 4 .any (Rows.fnMemoryAddScriptKeepsEveryLineSpec.pre6 enc Try.prog Try.f4 Rows.fnMemoryAddScriptKeepsEveryLineRow.domain false) (Rows.fnMemoryAddScriptKeepsEveryLineSpec.post enc Try.prog Try.f4 false true false false) := by
  refine returnsInHanded_of_change (C := Try.checked) own started (by kernel_rfl) Try.func4
    (ChangeSpec.witness6 (enc := enc) (C := Try.checked) false ⟨#[], #[.slice none 0 0, .slice none 0 0], []⟩ 8 (by kernel_rfl) (by kernel_rfl) (by kernel_rfl) (by kernel_rfl)) ?_
  intro W base args ds gs before hval0 hW hcnd _
  have hval : ∀ (j : Nat) t v, Try.f4.params[j]? = some t → args[j]? = some v → Value.okWide Try.prog W .any base t v := hval0
  have hW' := hW
  obtain ⟨p, q, hA0, hV, rfl, hfz, hnd⟩ := hW
  have hA : DataW.TrodAll enc Try.prog W 0 (fun _ => true) true Try.f4.params.toList args.toList ds p := hA0
  rw [Try.params4] at hA hval
  obtain ⟨v0, vs0, d0, ds0, p0, q0, hargs, rfl, rfl, h0, r0⟩ := trodAll_cons hA
  obtain ⟨v1, vs1, d1, ds1, p1, q1, rfl, rfl, rfl, h1, r1⟩ := trodAll_cons r0
  obtain ⟨rfl, rfl, rfl⟩ := trodAll_nil r1
  obtain rfl : args = #[v0, v1] := by cases args; simp_all
  obtain ⟨rfl, rfl⟩ := trodVars_none hV
  obtain ⟨a0, len0, cap0, rfl⟩ := okWide_slice Try.underlying27 (hval 0 27 v0 rfl rfl)
  have k0 := h0
  have lt0 : ∀ x ∈ p0, x.block < W.heap.size := by obtain ⟨m, hm⟩ := k0; exact DataW.trod_lt m _ _ _ hm
  obtain ⟨hz0, b0, o0, aA, lA, cA, bA, oA, B, hT, hTQ⟩ : (a0 = none → len0 = 0 ∧ cap0 = 0) ∧ ∃ (b off : Nat) (aA : Nat → Option Addr) (lA cA bA oA : Nat → Nat) (B : Nat → Nat → Int), IsRow2 W a0 len0 b off aA lA cA ∧ ∀ i, i < len0 → ((aA i = none → lA i = 0 ∧ cA i = 0) ∧ IsBytes W (aA i) (lA i) (bA i) (oA i) (B i)) := by
    obtain ⟨m, hm⟩ := h0
    exact open_row2 (fun _ => 0) Try.underlying27 Try.underlying22 cells22 (fun a l c b off B => (a = none → l = 0 ∧ c = 0) ∧ IsBytes W a l b off B) (fun n y a l c hf => by
      obtain ⟨k1, b, off, B, k2⟩ := open_bytes_cells hf
      exact ⟨b, off, B, k1, k2⟩) (by simpa [Value.cells] using hm)
  obtain ⟨a1, len1, cap1, rfl⟩ := okWide_slice Try.underlying46 (hval 1 46 v1 rfl rfl)
  have k1 := h1
  have lt1 : ∀ x ∈ p1, x.block < W.heap.size := by obtain ⟨m, hm⟩ := k1; exact DataW.trod_lt m _ _ _ hm
  obtain ⟨hz1, b1, o1, aR, lR, cR, bR, oR, R, hS, hSQ⟩ : (a1 = none → len1 = 0 ∧ cap1 = 0) ∧ ∃ (b off : Nat) (aA : Nat → Option Addr) (lA cA bA oA : Nat → Nat) (R : Nat → Nat → RunZ), IsRow2 W a1 len1 b off aA lA cA ∧ ∀ i, i < len1 → ((aA i = none → lA i = 0 ∧ cA i = 0) ∧ IsRuns W (aA i) (lA i) (bA i) (oA i) (R i)) := by
    obtain ⟨m, hm⟩ := h1
    exact open_row2 (fun _ => (0, 0, 0, 0)) Try.underlying46 Try.underlying23 cells23 (fun a l c b off R => (a = none → l = 0 ∧ c = 0) ∧ IsRuns W a l b off R) (fun n y a l c hf => by
      obtain ⟨k1, b, off, R, k2⟩ := open_runs_cells hf
      exact ⟨b, off, R, k1, k2⟩) (by simpa [Value.cells] using hm)
  clear hA0 hval0
  refine (law4_any a0 a1 len0 cap0 len1 cap1 b0 o0 b1 o1 aA aR lA cA bA oA lR cR bR oR B R W hT hS (fun i hi => (hTQ i hi).2) (fun i hi => (hSQ i hi).2) (fun i hi => (hTQ i hi).1) (fun i hi => (hSQ i hi).1) hz0 hz1).mono fun e W' ⟨he, bel⟩ => ?_
  subst he
  exact ⟨_, rfl, _, _, _, [], _, [], hW', trodAll_mk1 (shut_bool Try.underlying4 _), (trodAll_cons_mk (Below.trod laidOut (by kernel_rfl) (of_decide_eq_true (by kernel_rfl)) k0 bel lt0) (trodAll_cons_mk (Below.trod laidOut (by kernel_rfl) (of_decide_eq_true (by kernel_rfl)) k1 bel lt1) trodAll_mk0)), rfl, bel.frame _, fun h => by cases h⟩

/-- ████ THE STATEMENT ████ -/
theorem memoryAddScriptKeepsEveryLine : Rows.FnMemoryAddScriptKeepsEveryLineSaid :=
  OpenClaim.holds_of_wide 4 Try.f4 rfl rfl rfl rfl rfl rfl rfl ⟨rfl, rfl, rfl, rfl, rfl⟩ rfl rfl rfl rfl rfl (by kernel_rfl) Try.func4 (by kernel_rfl)
    (of_decide_eq_true (by kernel_rfl)) (by unfold Func.isWrapper; first | (rw [if_pos (by decide +kernel)]; kernel_rfl) | (rw [if_neg (by decide +kernel)]; exact ⟨rfl, rfl⟩))
    (fun os started H enc _ => lifted4 os started H enc)
end Go.Proofs.Qxb6604013a
