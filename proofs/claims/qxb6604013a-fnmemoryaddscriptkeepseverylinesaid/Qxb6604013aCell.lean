import Derived.Test.Qxb6604013aProg
import Derived.WalkKit
import Derived.WalkSpells
import Derived.WalkLawsBesides
import Derived.Deep.RegionHeld3
import Derived.Deep.DrawnRows
namespace Go.Proofs.Qxb6604013a
open Go.RowKit
attribute [local go_sem ↓] Go.wp_at_zero Go.wp_at_succ

set_option maxHeartbeats 400000 in
theorem style_any (fg bg a : Int) (w : World) :
    Calls Try.prog 23 #[.int .u32 fg, .int .u32 bg, .int .u8 a] w fun e w' => e = .returned (.agg #[.int .u32 fg, .int .u32 bg, .int .u8 a]) ∧ Below w.heap.size w w' := by
  go_enter Try.func23, Try.ntmps23
  go_wp2
  exact bodyPost_ret (v := .agg #[.int .u32 fg, .int .u32 bg, .int .u8 a]) (by simp [results, Try.results23, go_sem]) rfl ⟨rfl, (Below.refl _ _).alloc (Nat.le_refl _) _⟩

set_option maxHeartbeats 400000 in
theorem makeCell_any (r fg bg a m : Int) (w : World) :
    Calls Try.prog 25 #[.int .i32 r, .agg #[.int .u32 fg, .int .u32 bg, .int .u8 a], .int .u32 m] w fun e w' => e = .returned (.agg #[.int .i32 r, .int .u32 fg, .int .u32 bg, .int .u8 a, .int .u32 m]) ∧ Below w.heap.size w w' := by
  go_enter Try.func25, Try.ntmps25
  go_wp2
  exact bodyPost_ret (v := .agg #[.int .i32 r, .int .u32 fg, .int .u32 bg, .int .u8 a, .int .u32 m]) (by simp [results, Try.results25, go_sem]) rfl ⟨rfl, ((Below.refl _ _).alloc (Nat.le_refl _) _).alloc (by simp) _⟩


theorem bcell {W w1 : World} {n : Nat} (hb : Below n W w1) : (∀ b o, b < n → w1.cell? ⟨b, o, none⟩ = W.cell? ⟨b, o, none⟩) ∧ (∀ b o, b < n → w1.frozen? ⟨b, o, none⟩ = W.frozen? ⟨b, o, none⟩) :=
  ⟨fun b o h => hb.cell (p := ⟨b, o, none⟩) h, fun b o h => hb.frozen (p := ⟨b, o, none⟩) h⟩

/-- Block B is writable for n cells. -/
def Rm (B n : Nat) (w' : World) : Prop := (∀ j, j < n → (w'.cell? ⟨B, j, none⟩).isSome = true) ∧ (∀ j, w'.frozen? ⟨B, j, none⟩ = false)
theorem Rm.next {B n : Nat} {W W1 : World} (h : Rm B n W) (hB : B < W.heap.size) (hb : Below W.heap.size W W1) : Rm B n W1 := by
  obtain ⟨hc, hfz⟩ := bcell hb
  exact ⟨fun j hj => by rw [hc _ _ hB]; exact h.1 j hj, fun j => by rw [hfz _ _ hB]; exact h.2 j⟩
theorem Rm.set {B n : Nat} {W : World} (h : Rm B n W) (p : Addr) (v : Value) : Rm B n (W.setCell p v) := by
  refine ⟨fun j hj => ?_, fun j => by rw [World.frozen?_setCell]; exact h.2 j⟩
  obtain ⟨u, hu⟩ := Option.isSome_iff_exists.1 (h.1 j hj)
  by_cases e : p = ⟨B, j, none⟩
  · subst e; rw [World.cell?_setCell_same _ _ _ hu]; rfl
  · rw [World.cell?_setCell_other _ _ _ _ e, hu]; rfl
theorem Rm.at {B n : Nat} {W : World} (h : Rm B n W) (j : Nat) (hj : j < n) : ∃ v, W.cell? ⟨B, j, none⟩ = some v := Option.isSome_iff_exists.1 (h.1 j hj)

abbrev zS (w : World) (r fg bg a m : Int) (w' : World) : Prop :=
  w'.cell? ⟨w.heap.size, 0, none⟩ = some (.int .i32 r) ∧ w'.cell? ⟨w.heap.size, 1, none⟩ = some (.int .u32 fg) ∧ w'.cell? ⟨w.heap.size, 2, none⟩ = some (.int .u32 bg) ∧
      w'.cell? ⟨w.heap.size, 3, none⟩ = some (.int .u8 a) ∧ w'.cell? ⟨w.heap.size, 4, none⟩ = some (.int .u32 m) ∧
      Rm (w.heap.size + 1) 5 w' ∧ w.heap.size + 2 ≤ w'.heap.size ∧ Below w.heap.size w w'

theorem zS_next {w : World} {r fg bg a m : Int} {W W1 : World} (h : zS w r fg bg a m W) (hb : Below W.heap.size W W1) : zS w r fg bg a m W1 := by
  obtain ⟨h0, h1, h2, h3, h4, hf, hs, hB⟩ := h
  obtain ⟨hc, hfz⟩ := bcell hb
  have e := hb.size
  refine ⟨?_, ?_, ?_, ?_, ?_, hf.next (by omega) hb, by omega, hB.trans (hb.mono (by omega))⟩
  all_goals (rw [hc _ _ (by omega)]; assumption)

theorem zS_open {w : World} {r fg bg a m : Int} {W : World} (h : zS w r fg bg a m W) : (∃ v, W.cell? ⟨w.heap.size + 1, 0, none⟩ = some v) ∧ (∃ v, W.cell? ⟨w.heap.size + 1, 1, none⟩ = some v) ∧ (∃ v, W.cell? ⟨w.heap.size + 1, 2, none⟩ = some v) ∧
    (∃ v, W.cell? ⟨w.heap.size + 1, 3, none⟩ = some v) ∧ (∃ v, W.cell? ⟨w.heap.size + 1, 4, none⟩ = some v) ∧ ∀ j, W.frozen? ⟨w.heap.size + 1, j, none⟩ = false :=
  have hf := h.2.2.2.2.2.1
  ⟨hf.at 0 (by decide), hf.at 1 (by decide), hf.at 2 (by decide), hf.at 3 (by decide), hf.at 4 (by decide), hf.2⟩

theorem zS_set {w : World} {r fg bg a m : Int} {W : World} (h : zS w r fg bg a m W) (o : Nat) (v : Value) : zS w r fg bg a m (W.setCell ⟨w.heap.size + 1, o, none⟩ v) := by
  obtain ⟨h0, h1, h2, h3, h4, hf, hs, hB⟩ := h
  refine ⟨?_, ?_, ?_, ?_, ?_, hf.set _ _, by simpa [World.setCell] using hs, hB.setCell (by simp) _⟩
  all_goals (rw [World.cell?_setCell_other _ _ _ _ (by simp)]; assumption)

theorem zS_start (w : World) (r fg bg a m : Int) : zS w r fg bg a m (((w.alloc (.cells #[.int .i32 r, .int .u32 fg, .int .u32 bg, .int .u8 a, .int .u32 m] 60)).alloc (.cells #[.int .i32 0, .int .u32 0, .int .u32 0, .int .u8 0, .int .u32 0] 64)).drew) := by
  refine ⟨?_, ?_, ?_, ?_, ?_, ⟨?_, ?_⟩, by simp, (((Below.refl _ _).alloc (Nat.le_refl _) _).alloc (by simp) _).drew⟩
  case refine_6 => intro j hj; match j, hj with | 0, _ => simp | 1, _ => simp | 2, _ => simp | 3, _ => simp | 4, _ => simp
  all_goals simp

set_option maxHeartbeats 400000 in
theorem zCell_any (r fg bg a m : Int) (w : World) :
    Calls Try.prog 18 #[.agg #[.int .i32 r, .int .u32 fg, .int .u32 bg, .int .u8 a, .int .u32 m]] w fun e w' => e = .returned (.agg #[.int .i32 r, .int .u32 fg, .int .u32 bg, .int .u8 a, .int .u32 m]) ∧ Below w.heap.size w w' := by
  go_enter Try.func18, Try.ntmps18
  go_wp2
  go_region_held3 (zS w r fg bg a m)
    (first | with_reducible exact zS_start w r fg bg a m | with_reducible exact zS_next (by assumption) (by assumption) | (with_reducible (repeat (refine zS_set ?_ _ _)); with_reducible assumption))
    (first | (go_at_call 23; refine (style_any _ _ _ _).mono ?_; rintro e w' ⟨rfl, hb⟩) | (go_at_call 25; refine (makeCell_any _ _ _ _ _ _).mono ?_; rintro e w' ⟨rfl, hb⟩; obtain ⟨⟨v0, q0⟩, ⟨v1, q1⟩, ⟨v2, q2⟩, ⟨v3, q3⟩, ⟨v4, q4⟩, qf⟩ := zS_open (zS_next (by assumption) hb)))
  rename_i hH
  have hB := hH.2.2.2.2.2.2.2
  go_wp2
  exact bodyPost_ret (v := .agg #[.int .i32 r, .int .u32 fg, .int .u32 bg, .int .u8 a, .int .u32 m]) (by simp [results, Try.results18, go_sem, q0, q1, q2, q3, q4]) rfl ⟨rfl, hB⟩

end Go.Proofs.Qxb6604013a
