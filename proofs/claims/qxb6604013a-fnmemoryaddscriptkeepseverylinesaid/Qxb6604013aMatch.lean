import Derived.Test.Qxb6604013aAdd0
namespace Go.Proofs.Qxb6604013a
open Go.RowKit
set_option linter.unusedVariables false
set_option linter.unusedSimpArgs false
attribute [local go_sem ↓] Go.wp_at_zero Go.wp_at_succ

/-- The four cells of a run of a line. -/
abbrev rat4 (w' : World) (b o gt ad ln : Nat) (z : RunZ) : Prop :=
  w'.cell? ⟨b, o, none⟩ = some (.slice (some ⟨gt, ad, none⟩) ln ln) ∧ w'.cell? ⟨b, o + 1, none⟩ = some (.int .u32 z.2.1) ∧ w'.cell? ⟨b, o + 2, none⟩ = some (.int .u32 z.2.2.1) ∧ w'.cell? ⟨b, o + 3, none⟩ = some (.int .u8 z.2.2.2)
theorem rat4_of {w' : World} {b o gt : Nat} {A : Nat → Nat} {R : Nat → RunZ} {i : Nat} (h : w'.rangeAt b o (rcell gt A R i)) : rat4 w' b o gt (A i) (rlen R i) (R i) := ⟨h 0 _ rfl, h 1 _ rfl, h 2 _ rfl, h 3 _ rfl⟩
theorem rat4_below {w w' : World} {b o gt ad ln D : Nat} {z : RunZ} (h : rat4 w b o gt ad ln z) (hb : Below D w w') (hD : b < D) : rat4 w' b o gt ad ln z := by
  obtain ⟨hc, _⟩ := bcell hb
  obtain ⟨h0, h1, h2, h3⟩ := h
  exact ⟨by rw [hc _ _ hD]; exact h0, by rw [hc _ _ hD]; exact h1, by rw [hc _ _ hD]; exact h2, by rw [hc _ _ hD]; exact h3⟩
theorem before_nonneg {lT n : Nat} {R : Nat → RunZ} (hV : Valid lT n R) : ∀ m, m < n → 0 ≤ before R m := by
  intro m
  induction m with
  | zero => intro _; simp [before]
  | succ m ih => intro hm; rw [before_succ]; exact Int.le_trans (ih (by omega)) (hV m (by omega)).1

/-- A line that stands for its packed line: its runs R', its text B'. -/
def LineIs (w : World) (gr ro n gt : Nat) (A : Nat → Nat) (R' : Nat → RunZ) (B' : Nat → Int) : Prop :=
  ∀ i, i < n → gr < w.heap.size ∧ w.rangeAt gr (ro + i * 4) (rcell gt A R' i) ∧ ∀ k, k < rlen R' i → gt < w.heap.size ∧ w.cell? ⟨gt, A i + k, none⟩ = some (.int .u8 (B' ((before R' i).toNat + k)))

set_option maxHeartbeats 400000 in
theorem matches_none (aT a1 : Option Addr) (lT cT c1 : Nat) (inv : Bool) (w : World) :
    Calls Try.prog 13 #[.slice none 0 0, .slice aT lT cT, .slice a1 0 c1, .bool inv] w fun e w' => e = .returned (.bool true) ∧ w' = w := by
  have hq38 := fun (W : World) => Lib.run_eql_slice_nil (P := Try.prog) W 38 57 none 0 0 0 0 Try.underlying38
  simp only [Option.isNone_none] at hq38
  go_enter Try.func13, Try.ntmps13
  go_wp2
  go_ret
  exact ⟨rfl, rfl⟩

set_option maxRecDepth 8000 in
set_option maxHeartbeats 1000000 in
theorem matches_plain (gr ro n gt lT cT cR bT oT bR oR : Nat) (A : Nat → Nat) (aT aR : Option Addr) (R : Nat → RunZ) (B : Nat → Int) (w : World) (hn0 : 0 < n) (hn : n ≤ 65536) (hlT : lT ≤ 1048576)
    (hT : IsBytes w aT lT bT oT B) (hR : IsRuns w aR n bR oR R) (hV : Valid lT n R) (hL : LineIs w gr ro n gt A R B) :
    Calls Try.prog 13 #[.slice (some ⟨gr, ro, none⟩) n n, .slice aT lT cT, .slice aR n cR, .bool false] w fun e w' => e = .returned (.bool true) ∧ Below w.heap.size w w' := by
  have hnn : ((n : Int) == 0) = false := by simp; omega
  have hne : ((n : Int) != (n : Int)) = false := by simp
  go_enter Try.func13, Try.ntmps13
  go_wp2
  go_loopg [9, 10] n (fun k p i wr => ∃ j : Nat, j ≤ n ∧ k = n - j ∧ p = .int .i64 (before R j) ∧ i = .int .i64 j ∧ Below w.heap.size w wr)
  case atStart => exact ⟨0, by omega, by omega, rfl, rfl, Below.refl _ _⟩
  case round =>
    obtain ⟨j, hj, rfl, rfl, rfl, hBw⟩ := hrel
    by_cases hlt : j < n
    · obtain rfl := hR.1 (by omega)
      obtain ⟨hgrl, hrc, htx⟩ := hL j hlt
      obtain ⟨hv1, hv2⟩ := hV j hlt
      have hbf := before_nonneg hV j hlt
      obtain ⟨f, hf⟩ : ∃ f : Nat, before R j = (f : Int) := ⟨(before R j).toNat, by omega⟩
      obtain ⟨ln, hln⟩ : ∃ ln : Nat, ln = rlen R j := ⟨_, rfl⟩
      have he : (R j).1 = (f : Int) + (ln : Int) := by rw [hln]; unfold rlen; omega
      have hr4 := rat4_below (rat4_of hrc) hBw hgrl
      rw [← hln] at hr4 htx
      have ha4 := at4_below (at4_of (hR.2 j hlt).1) hBw (hR.lt (by omega))
      have hftl : f + ln ≤ lT := by omega
      have hbfN : (before R j).toNat = f := by omega
      rw [hbfN] at htx
      have h1 := hr4.1
      have h2 := ha4.1
      rw [he] at h2
      have h3 := ha4.2.1
      have h4 := ha4.2.2.2
      have hi3 : (0 : Int) ≤ (j : Int) := by omega
      have hi4 : (j : Int) < (n : Int) := by omega
      have hlnn : ((ln : Int) != (ln : Int)) = false := by simp
      have HA : Hid (rat4 wr gr (ro + j * 4) gt (A j) ln (R j) ∧ at4 wr bR (oR + j * 4) (R j)) := ⟨hr4, ha4⟩
      have HE : Hid ((R j).1 = (f : Int) + (ln : Int) ∧ ln = rlen R j) := ⟨he, hln⟩
      have HTX : Hid (∀ k, k < ln → gt < w.heap.size ∧ w.cell? ⟨gt, A j + k, none⟩ = some (.int .u8 (B (f + k)))) := htx
      have htst : ((f : Int) + (ln : Int) != (f : Int) + (ln : Int)) = false := by simp
      clear hr4 ha4 he hln htx hrc hv1 hv2 hbf hbfN
      go_wp2
      go_loopg [12] ln (fun k i wr2 => ∃ q : Nat, q ≤ ln ∧ k = ln - q ∧ i = .int .i64 q ∧ wr2 = wr)
      case atStart => exact ⟨0, by omega, by omega, rfl, rfl⟩
      case round =>
        obtain ⟨q, hq, rfl, rfl, rfl⟩ := hrel
        by_cases hql : q < ln
        · obtain rfl := hT.1 (by omega)
          have hc1 : wr.cell? ⟨bT, oT + (f + q), none⟩ = some (.int .u8 (B (f + q))) := (hBw.cell (p := ⟨bT, oT + (f + q), none⟩) (hT.lt (by omega))).trans (hT.2 (f + q) (by omega))
          obtain ⟨hgtl, htq⟩ := HTX.out q hql
          have hc2 : wr.cell? ⟨gt, A j + q, none⟩ = some (.int .u8 (B (f + q))) := (hBw.cell (p := ⟨gt, A j + q, none⟩) hgtl).trans htq
          have hl0 : (0 : Int) ≤ (q : Int) := by omega
          have hl1 : (q : Int) < (ln : Int) := by omega
          have hl2 : (0 : Int) ≤ (f : Int) + (q : Int) := by omega
          have hl3 : (f : Int) + (q : Int) < (lT : Int) := by omega
          have hl4 : ((f : Int) + (q : Int)).toNat = f + q := by omega
          have hbb : (B (f + q) != B (f + q)) = false := by simp
          clear htq
          go_wp2
          go_roundg (ln - (q + 1))
          case measure => omega
          case rel => exact ⟨q + 1, by omega, rfl, by go_num, rfl⟩
        · obtain rfl : q = ln := by omega
          go_wp2
          have hS : Hid (rat4 wr.drew gr (ro + j * 4) gt (A j) q (R j) ∧ at4 wr.drew bR (oR + j * 4) (R j)) := HA.out
          have hbl1 : gr < wr.drew.heap.size := by have := hBw.size; simp; omega
          have hbl2 : bR < wr.drew.heap.size := by have := hBw.size; have := hR.lt (by omega); simp; omega
          go_region_held3 (fun w' => rat4 w' gr (ro + j * 4) gt (A j) q (R j) ∧ at4 w' bR (oR + j * 4) (R j)) (first | exact hS.out | with_reducible assumption)
            (first | (go_at_call 23; refine (style_any _ _ _ _).mono ?_; rintro e w5 ⟨rfl, hb5⟩; have hS5 : rat4 w5 gr (ro + j * 4) gt (A j) q (R j) ∧ at4 w5 bR (oR + j * 4) (R j) := ⟨rat4_below hS.out.1 hb5 hbl1, at4_below hS.out.2 hb5 hbl2⟩))
          go_wp2
          go_roundg (n - (j + 1))
          case measure => omega
          case rel => exact ⟨j + 1, by omega, rfl, by rw [before_succ, HE.out.1], by go_num, hBw.drew.trans (hb5.mono (by have := hBw.size; simp; omega))⟩
    · go_wp2
      go_ret
      exact ⟨rfl, hBw⟩

end Go.Proofs.Qxb6604013a
