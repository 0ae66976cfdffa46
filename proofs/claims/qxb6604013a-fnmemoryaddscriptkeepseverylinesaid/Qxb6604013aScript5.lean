import Derived.Test.Qxb6604013aScript4
import Derived.Deep.Cut
import Derived.Deep.CutRange
namespace Go.Proofs.Qxb6604013a
open Go.RowKit
set_option linter.unusedVariables false
set_option linter.unusedSimpArgs false
attribute [local go_sem ↓] Go.wp_at_zero Go.wp_at_succ

theorem two_set {w' : World} {b1 o1 b2 o2 g o : Nat} {v x1 x2 : Value} (h : w'.cell? ⟨b1, o1, none⟩ = some x1 ∧ w'.cell? ⟨b2, o2, none⟩ = some x2) (h1 : b1 ≠ g) (h2 : b2 ≠ g) :
    (w'.setCell ⟨g, o, none⟩ v).cell? ⟨b1, o1, none⟩ = some x1 ∧ (w'.setCell ⟨g, o, none⟩ v).cell? ⟨b2, o2, none⟩ = some x2 :=
  ⟨by rw [cell_set_ne (fun e => absurd e h1)]; exact h.1, by rw [cell_set_ne (fun e => absurd e h2)]; exact h.2⟩
theorem two_below {w w' : World} {b1 o1 b2 o2 D : Nat} {x1 x2 : Value} (h : w.cell? ⟨b1, o1, none⟩ = some x1 ∧ w.cell? ⟨b2, o2, none⟩ = some x2) (hb : Below D w w') (h1 : b1 < D) (h2 : b2 < D) :
    w'.cell? ⟨b1, o1, none⟩ = some x1 ∧ w'.cell? ⟨b2, o2, none⟩ = some x2 := ⟨(hb.cell (p := ⟨b1, o1, none⟩) h1).trans h.1, (hb.cell (p := ⟨b2, o2, none⟩) h2).trans h.2⟩
theorem three_set {w' : World} {b1 o1 b2 o2 b3 o3 g o : Nat} {v x1 x2 x3 : Value} (h : w'.cell? ⟨b1, o1, none⟩ = some x1 ∧ w'.cell? ⟨b2, o2, none⟩ = some x2 ∧ w'.cell? ⟨b3, o3, none⟩ = some x3) (h1 : b1 ≠ g) (h2 : b2 ≠ g) (h3 : b3 ≠ g) :
    (w'.setCell ⟨g, o, none⟩ v).cell? ⟨b1, o1, none⟩ = some x1 ∧ (w'.setCell ⟨g, o, none⟩ v).cell? ⟨b2, o2, none⟩ = some x2 ∧ (w'.setCell ⟨g, o, none⟩ v).cell? ⟨b3, o3, none⟩ = some x3 :=
  ⟨by rw [cell_set_ne (fun e => absurd e h1)]; exact h.1, by rw [cell_set_ne (fun e => absurd e h2)]; exact h.2.1, by rw [cell_set_ne (fun e => absurd e h3)]; exact h.2.2⟩
theorem four_below {w w' : World} {b1 o1 b2 o2 b3 o3 b4 o4 D : Nat} {x1 x2 x3 x4 : Value} (h : w.cell? ⟨b1, o1, none⟩ = some x1 ∧ w.cell? ⟨b2, o2, none⟩ = some x2 ∧ w.cell? ⟨b3, o3, none⟩ = some x3 ∧ w.cell? ⟨b4, o4, none⟩ = some x4) (hb : Below D w w') (h1 : b1 < D) (h2 : b2 < D) (h3 : b3 < D) (h4 : b4 < D) :
    w'.cell? ⟨b1, o1, none⟩ = some x1 ∧ w'.cell? ⟨b2, o2, none⟩ = some x2 ∧ w'.cell? ⟨b3, o3, none⟩ = some x3 ∧ w'.cell? ⟨b4, o4, none⟩ = some x4 := ⟨(hb.cell (p := ⟨b1, o1, none⟩) h1).trans h.1, (hb.cell (p := ⟨b2, o2, none⟩) h2).trans h.2.1, (hb.cell (p := ⟨b3, o3, none⟩) h3).trans h.2.2.1, (hb.cell (p := ⟨b4, o4, none⟩) h4).trans h.2.2.2⟩
theorem madd_none' (Mb n : Nat) (aT a1 : Option Addr) (lT cT c1 : Nat) (w : World) (hn : n = 0) :
    Calls Try.prog 11 #[.pointer (some ⟨Mb, 0, none⟩), .agg #[.slice aT lT cT, .slice a1 n c1]] w fun e w' => e = .returned (.slice none 0 0) ∧ Below w.heap.size w w' := by
  subst hn; exact madd_none Mb aT a1 lT cT c1 w
theorem matches_none' (n : Nat) (aT a1 : Option Addr) (lT cT c1 : Nat) (inv : Bool) (w : World) (hn : n = 0) :
    Calls Try.prog 13 #[.slice none 0 0, .slice aT lT cT, .slice a1 n c1, .bool inv] w fun e w' => e = .returned (.bool true) ∧ Below w.heap.size w w' := by
  subst hn
  exact (matches_none aT a1 lT cT c1 inv w).mono (fun e w' h => ⟨h.1, by rw [h.2]; exact Below.refl _ _⟩)
/-- The rows that the in slices lead to, whatever they hold. -/
def In5 (w : World) (nn : Nat) (lA iB : Nat → Nat) : Prop := ∀ q, q < nn → 0 < lA q → ∃ L, Blk w (iB q) 5 L ∧ L.length = lA q
theorem In5.set {w : World} {nn : Nat} {lA iB : Nat → Nat} (h : In5 w nn lA iB) (g o : Nat) (v : Value) : In5 (w.setCell ⟨g, o, none⟩ v) nn lA iB := by
  intro q hq hl
  obtain ⟨L, h1, h2⟩ := h q hq hl
  by_cases e : iB q = g
  · rw [e] at h1 ⊢
    exact ⟨_, h1.setCell o v, by simpa using h2⟩
  · exact ⟨L, h1.setCell_other (by simpa using e) v, h2⟩
theorem Ls.plain {w : World} {N j : Nat} {live : Nat → Prop} {lA lR : Nat → Nat} {R : Nat → Nat → RunZ} {B : Nat → Nat → Int} {ln : Nat → LRec} {ckT ckR : List Ck} (h : Ls w N j live lA lR R B ln ckT ckR) {p : Nat} (hp : p < j) (hl : live p) (hV : Valid (lA p) (lR p) (R p)) :
    LineIs w (ln p).gr ((ln p).kr * 4) (lR p) (ln p).gt (ln p).A (R p) (B p) := lineIs_of hV (h.one p hp hl).txt (h.one p hp hl).run

set_option maxRecDepth 16000 in
set_option maxHeartbeats 2000000 in
theorem law4_out (a0 a1 : Option Addr) (n0 c0 n1 c1 b0 o0 b1 o1 : Nat) (aA aR : Nat → Option Addr) (lA cA lR cR : Nat → Nat) (w : World) (h0 : IsRow2 w a0 n0 b0 o0 aA lA cA) (h1 : IsRow2 w a1 n1 b1 o1 aR lR cR)
    (h : 1048576 < n0 + su lA n0 + n1 + su lR n1 ∨ 1048576 < 24 * n0 + 24 * n1) :
    Calls Try.prog 4 #[.slice a0 n0 c0, .slice a1 n1 c1] w fun e w' => e = .returned (.bool true) ∧ w = w' := by
  by_cases hs : n0 + su lA n0 + n1 + su lR n1 ≤ 1048576
  · have hn0 : n0 ≤ 1048576 := by omega
    have hn1 : n1 ≤ 1048576 := by omega
    by_cases hb0 : 65536 < n0
    · have hd0 : decide ((65536 : Int) < (n0 : Int)) = true := decide_eq_true (by omega)
      go_enter Try.func4, Try.ntmps4
      go_wp2_with (go_at_call 14; refine (bytes14_yes _ _ _ _ _ _ b0 o0 b1 o1 aA aR lA cA lR cR _ h0 h1 hs).mono ?_; rintro e w1 ⟨rfl, rfl⟩)
      go_ret
      exact ⟨rfl, rfl⟩
    · have hd0 : decide ((65536 : Int) < (n0 : Int)) = false := decide_eq_false (by omega)
      by_cases hb1 : 65536 < n1
      · have hd1 : decide ((65536 : Int) < (n1 : Int)) = true := decide_eq_true (by omega)
        go_enter Try.func4, Try.ntmps4
        go_wp2_with (go_at_call 14; refine (bytes14_yes _ _ _ _ _ _ b0 o0 b1 o1 aA aR lA cA lR cR _ h0 h1 hs).mono ?_; rintro e w1 ⟨rfl, rfl⟩)
        go_ret
        exact ⟨rfl, rfl⟩
      · have hd1 : decide ((65536 : Int) < (n1 : Int)) = false := decide_eq_false (by omega)
        have hbig : 1048576 < 24 * n0 + 24 * n1 := by omega
        go_enter Try.func4, Try.ntmps4
        go_wp2_with (go_at_call 14; refine (bytes14_yes _ _ _ _ _ _ b0 o0 b1 o1 aA aR lA cA lR cR _ h0 h1 hs).mono ?_; rintro e w1 ⟨rfl, rfl⟩)
        go_ret
        exact ⟨rfl, rfl⟩
  · go_enter Try.func4, Try.ntmps4
    go_wp2_with (go_at_call 14; refine (bytes14_no _ _ _ _ _ _ b0 o0 b1 o1 aA aR lA cA lR cR _ h0 h1 (by omega)).mono ?_; rintro e w1 ⟨rfl, rfl⟩)
    go_ret
    exact ⟨rfl, rfl⟩
end Go.Proofs.Qxb6604013a
