/-
  How byte slices and slices of ZRuns read.
-/
import Derived.Test.Qxb6604013aOpen
import Derived.Test.Qxb6604013aRun1
namespace Go.Proofs.Qxb6604013a
open Go.ChangeShapes Go.WideShapes Go.ChangeAt Go.RowKit
set_option linter.unusedVariables false

theorem cells69 : Try.prog.cellsOf 69 = 4 := by kernel_rfl

section
variable {H : Type} {enc : TypeId × Value → H} {w : World} {base : Nat} {spare : Nat → Bool} {held : Bool}

theorem trod_zrun {n : Nat} {cs : List Value} {x : DataW H × List MemPlace} (h : DataW.trod enc Try.prog w base spare held n 69 cs = some x) :
    ∃ z : RunZ, cs = cv4 z ∧ -2147483648 ≤ z.1 ∧ z.1 ≤ 2147483647 := by
  obtain ⟨xs, m, _, _, hl, hlen, hf⟩ := DataW.trod_struct Try.underlying69 h
  rw [cells69] at hl
  match cs, hl with
  | [c0, c1, c2, c3], _ =>
    have hs : xs.length = 4 := hlen
    match xs, hs with
    | [x0, x1, x2, x3], _ =>
      have g0 := hf 0 _ rfl
      have g1 := hf 1 _ rfl
      have g2 := hf 2 _ rfl
      have g3 := hf 3 _ rfl
      simp [cells21, cells51, cells5] at g0 g1 g2 g3
      obtain ⟨r, e0, _, hw⟩ := DataW.trod_int Try.underlying21 g0
      obtain ⟨fg, e1, _⟩ := DataW.trod_int Try.underlying51 g1
      obtain ⟨bg, e2, _⟩ := DataW.trod_int Try.underlying51 g2
      obtain ⟨a, e3, _⟩ := DataW.trod_int Try.underlying5 g3
      simp only [List.cons.injEq, and_true] at e0 e1 e2 e3
      subst e0 e1 e2 e3
      exact ⟨(r, fg, bg, a), rfl, bounds_i32 hw⟩

/-- A slice of bytes, cell by cell. -/
theorem open_bytes_cells {fuel : Nat} {x : DataW H × List MemPlace} {a0 : Option Addr} {len cap : Nat} (hf : DataW.trod enc Try.prog w base (fun _ => true) held fuel 22 [.slice a0 len cap] = some x) :
    (a0 = none → len = 0 ∧ cap = 0) ∧ ∃ b off B, IsBytes w a0 len b off B := by
  rcases open_ints Try.underlying22 Try.underlying5 cells5 hf with ⟨hcs, _⟩ | ⟨y, l, c, zs, hcs, _, hl, hm, hz, _, hcell, hwz⟩
  · simp at hcs
    obtain ⟨rfl, rfl, rfl⟩ := hcs
    exact ⟨fun _ => ⟨rfl, rfl⟩, 0, 0, fun _ => 0, fun h => by omega, fun i hi => by omega⟩
  · simp at hcs
    obtain ⟨rfl, rfl, rfl⟩ := hcs
    simp only [if_true] at hz
    refine ⟨(fun h => by cases h), y.block, y.off, fun i => zs.getD i 0, fun h => ?_, fun i hi => ?_⟩
    · have := World.cell?_spot (a := y) (by simpa [Addr.add] using hcell 0 (by omega))
      obtain ⟨b, off, sp⟩ := y
      have hsp : sp = none := this
      rw [hsp]
    · have h0 := World.cell?_spot (a := y) (by simpa [Addr.add] using hcell 0 (by omega))
      obtain ⟨b, off, sp⟩ := y
      have hsp : sp = none := h0
      subst hsp
      have := hcell i (by omega)
      rwa [Addr.add_mid] at this

theorem open_runs_cells {fuel : Nat} {x : DataW H × List MemPlace} {a0 : Option Addr} {len cap : Nat} (hf : DataW.trod enc Try.prog w base (fun _ => true) held fuel 23 [.slice a0 len cap] = some x) :
    (a0 = none → len = 0 ∧ cap = 0) ∧ ∃ b off R, IsRuns w a0 len b off R := by
  rcases Deep.open_slice Try.underlying23 hf with ⟨hcs, _⟩ | ⟨a, l, c, m, n, D, Pl, hcs, _, hl, _, hm, _, hx⟩
  · simp at hcs
    obtain ⟨rfl, rfl, rfl⟩ := hcs
    exact ⟨fun _ => ⟨rfl, rfl⟩, 0, 0, fun _ => (0, 0, 0, 0), fun h => by omega, fun i hi => by omega⟩
  · simp at hcs
    obtain ⟨rfl, rfl, rfl⟩ := hcs
    simp only [if_true] at hm
    subst hm
    have hspot : 0 < len → a.spot = none := by
      intro h
      obtain ⟨cs0, k1, k2⟩ := hx 0 (by omega)
      rw [cells69] at k1
      obtain ⟨z0, rfl, _⟩ := trod_zrun k2
      obtain ⟨_, _, kc⟩ := World.cells?_some k1
      have k00 := kc 0 (by omega)
      have : w.cell? a = some (.int .i32 z0.1) := by simpa [Addr.add, cv4] using k00
      exact World.cell?_spot this
    have key : ∀ i, i < len → ∃ z : RunZ, w.rangeAt a.block (a.off + i * 4) (cv4 z) ∧ -2147483648 ≤ z.1 ∧ z.1 ≤ 2147483647 := by
      intro i hi
      obtain ⟨cs', h1, h2⟩ := hx i (by omega)
      rw [cells69] at h1
      obtain ⟨z, rfl, hb⟩ := trod_zrun h2
      obtain ⟨_, _, hc⟩ := World.cells?_some h1
      refine ⟨z, fun j v hv => ?_, hb⟩
      have hj : j < 4 := (List.getElem?_eq_some_iff.1 hv).1
      have := hc j hj
      rw [hv, Deep.add_add] at this
      rw [← this]
      have hsp := hspot (by omega)
      obtain ⟨b, off, sp⟩ := a
      have hsp' : sp = none := hsp
      subst hsp'
      rw [Addr.add_mid]
      simp [Nat.add_assoc]
    obtain ⟨R, hR⟩ := Deep.choose_lt (α := RunZ) key
    refine ⟨(fun h => by cases h), a.block, a.off, R, fun h => ?_, hR⟩
    have hsp := hspot h
    obtain ⟨b, off, sp⟩ := a
    have hsp' : sp = none := hsp
    rw [hsp']
end
end Go.Proofs.Qxb6604013a
