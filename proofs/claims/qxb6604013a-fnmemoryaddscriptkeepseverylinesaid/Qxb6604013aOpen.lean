/-
  How the arguments of the laws read: ZCells and slices of them.
-/
import Derived.Test.Qxb6604013aRows
import Derived.Test.Qxb6604013aFillLaw
import Derived.WalkKit
import Derived.ProofKit
import Derived.OpenShut
import Derived.ShutString
import Derived.ChangeOld
import Derived.Below
import Derived.Deep.Slices
namespace Go.Proofs.Qxb6604013a
open Go.ChangeShapes Go.WideShapes Go.ChangeAt Go.RowKit
set_option linter.unusedVariables false

theorem own : ownKnob Try.prog.godebug = none := by kernel_rfl
theorem laidOut : laidOutB Try.prog = true := by kernel_rfl
theorem cells60 : Try.prog.cellsOf 60 = 5 := by kernel_rfl
theorem cells21 : Try.prog.cellsOf 21 = 1 := by kernel_rfl
theorem cells51 : Try.prog.cellsOf 51 = 1 := by kernel_rfl
theorem cells5 : Try.prog.cellsOf 5 = 1 := by kernel_rfl

section
variable {H : Type} {enc : TypeId × Value → H} {w : World} {base : Nat} {spare : Nat → Bool} {held : Bool}

/-- The cells of a ZCell that reads as data. -/
theorem trod_zcell {n : Nat} {cs : List Value} {x : DataW H × List MemPlace} (h : DataW.trod enc Try.prog w base spare held n 60 cs = some x) :
    ∃ z : Int × Int × Int × Int × Int, cs = cv5 z.1 z.2.1 z.2.2.1 z.2.2.2.1 z.2.2.2.2 := by
  obtain ⟨xs, m, _, _, hl, hlen, hf⟩ := DataW.trod_struct Try.underlying60 h
  rw [cells60] at hl
  match cs, hl with
  | [c0, c1, c2, c3, c4], _ =>
    have hs : xs.length = 5 := hlen
    match xs, hs with
    | [x0, x1, x2, x3, x4], _ =>
      have g0 := hf 0 _ rfl
      have g1 := hf 1 _ rfl
      have g2 := hf 2 _ rfl
      have g3 := hf 3 _ rfl
      have g4 := hf 4 _ rfl
      simp [cells21, cells51, cells5] at g0 g1 g2 g3 g4
      obtain ⟨r, e0, _⟩ := DataW.trod_int Try.underlying21 g0
      obtain ⟨fg, e1, _⟩ := DataW.trod_int Try.underlying51 g1
      obtain ⟨bg, e2, _⟩ := DataW.trod_int Try.underlying51 g2
      obtain ⟨a, e3, _⟩ := DataW.trod_int Try.underlying5 g3
      obtain ⟨mk, e4, _⟩ := DataW.trod_int Try.underlying51 g4
      simp only [List.cons.injEq, and_true] at e0 e1 e2 e3 e4
      subst e0 e1 e2 e3 e4
      exact ⟨(r, fg, bg, a, mk), rfl⟩

theorem open_zcell {r : Reach} {b0 : Nat} {v : Value} {d : DataW H} {p : List MemPlace} (hv : Value.okWide Try.prog w r b0 60 v) (h : DataW.Trod enc Try.prog w base spare held 60 v d p) :
    ∃ r fg bg a m : Int, v = .agg #[.int .i32 r, .int .u32 fg, .int .u32 bg, .int .u8 a, .int .u32 m] := by
  obtain ⟨cs, rfl, _⟩ := okWide_struct Try.underlying60 hv
  obtain ⟨fuel, hf⟩ := h
  obtain ⟨z, hz⟩ := trod_zcell hf
  refine ⟨z.1, z.2.1, z.2.2.1, z.2.2.2.1, z.2.2.2.2, ?_⟩
  have : cs.toList = cv5 z.1 z.2.1 z.2.2.1 z.2.2.2.1 z.2.2.2.2 := by simpa [Value.cells] using hz
  rw [← Array.toArray_toList (xs := cs), this]
  rfl

/-- A slice of ZCells that came in: nil, or its elements' cells. -/
theorem open_zcells {a0 : Option Addr} {len cap : Nat} {d : DataW H} {p : List MemPlace} (h : DataW.Trod enc Try.prog w base (fun _ => true) held 58 (.slice a0 len cap) d p) :
    (a0 = none ∧ len = 0 ∧ cap = 0) ∨ ∃ ad Z, a0 = some ad ∧ IsCells w ad len Z := by
  obtain ⟨fuel, hf⟩ := h
  rcases Deep.open_slice Try.underlying58 hf with ⟨hcs, _⟩ | ⟨a, l, c, m, n, D, Pl, hcs, _, hl, _, hm, _, hx⟩
  · simp [Value.cells] at hcs
    exact .inl hcs
  · simp [Value.cells] at hcs
    obtain ⟨rfl, rfl, rfl⟩ := hcs
    simp only [if_true] at hm
    subst hm
    right
    have key : ∀ i, i < len → ∃ z : Int × Int × Int × Int × Int, a.spot = none ∧ w.rangeAt a.block (a.off + i * 5) (cv5 z.1 z.2.1 z.2.2.1 z.2.2.2.1 z.2.2.2.2) := by
      intro i hi
      obtain ⟨cs', h1, h2⟩ := hx i (by omega)
      rw [cells60] at h1
      obtain ⟨z, rfl⟩ := trod_zcell h2
      obtain ⟨_, _, hc⟩ := World.cells?_some h1
      have h00 := hc 0 (by omega)
      have hsp : (a.add (i * 5)).spot = none := by
        have : w.cell? ((a.add (i * 5)).add 0) = some (.int .i32 z.1) := by rw [h00]; rfl
        exact World.cell?_spot (a := a.add (i * 5)) this
      refine ⟨z, ?_, ?_⟩
      · obtain ⟨cs0, k1, k2⟩ := hx 0 (by omega)
        rw [cells60] at k1
        obtain ⟨z0, rfl⟩ := trod_zcell k2
        obtain ⟨_, _, kc⟩ := World.cells?_some k1
        have k00 := kc 0 (by omega)
        have : w.cell? a = some (.int .i32 z0.1) := by simpa [Addr.add, cv5] using k00
        exact World.cell?_spot this
      · intro j v hv
        have hj : j < 5 := (List.getElem?_eq_some_iff.1 hv).1
        have := hc j hj
        rw [hv, Deep.add_add] at this
        rw [← this]
        obtain ⟨b, off, sp⟩ := a
        have hsp' : sp = none := by
          obtain ⟨cs0, k1, k2⟩ := hx 0 (by omega)
          rw [cells60] at k1
          obtain ⟨z0, rfl⟩ := trod_zcell k2
          obtain ⟨_, _, kc⟩ := World.cells?_some k1
          have k00 := kc 0 (by omega)
          have k01 : w.cell? ⟨b, off, sp⟩ = some (.int .i32 z0.1) := by simpa [Addr.add, cv5] using k00
          exact World.cell?_spot k01
        subst hsp'
        rw [Addr.add_mid]
        simp [Nat.add_assoc]
    obtain ⟨Z, hZ⟩ := Deep.choose_lt (α := Int × Int × Int × Int × Int) key
    exact ⟨a, Z, rfl, fun i hi => hZ i hi⟩
end

end Go.Proofs.Qxb6604013a
