import Derived.Test.Qxb6604013aMatch
namespace Go.Proofs.Qxb6604013a
open Go.RowKit
set_option linter.unusedVariables false
set_option linter.unusedSimpArgs false
attribute [local go_sem ↓] Go.wp_at_zero Go.wp_at_succ

/-- What Go's '^' makes of a byte, and of a 32-bit word. -/
def iv8 (n : Int) : Int := bits BinOp.xor IntKind.u8 IntKind.u8.max n
def iv32 (n : Int) : Int := bits BinOp.xor IntKind.u32 IntKind.u32.max n
theorem iv8_eq (n : Int) : bits BinOp.xor IntKind.u8 IntKind.u8.max n = iv8 n := rfl
theorem iv32_eq (n : Int) : bits BinOp.xor IntKind.u32 IntKind.u32.max n = iv32 n := rfl
theorem iv8_eq' (n : Int) : bits BinOp.xor IntKind.u8 255 n = iv8 n := rfl
theorem iv32_eq' (n : Int) : bits BinOp.xor IntKind.u32 4294967295 n = iv32 n := rfl
theorem iv8_if (n : Int) : bits BinOp.xor IntKind.u8 (if IntKind.u8.signed = true then -1 else IntKind.u8.max) n = iv8 n := rfl
theorem iv32_if (n : Int) : bits BinOp.xor IntKind.u32 (if IntKind.u32.signed = true then -1 else IntKind.u32.max) n = iv32 n := rfl
attribute [local go_sem] iv8_eq iv32_eq iv8_eq' iv32_eq'
attribute [local go_sem ↓] iv8_if iv32_if

/-- The runs, their foregrounds and attributes turned. -/
def ivZ (z : RunZ) : RunZ := (z.1, iv32 z.2.1, z.2.2.1, iv8 z.2.2.2)
def ivR (R : Nat → RunZ) (i : Nat) : RunZ := ivZ (R i)
theorem ivR_before (R : Nat → RunZ) (i : Nat) : before (ivR R) i = before R i := by cases i <;> rfl
theorem ivR_rlen (R : Nat → RunZ) (i : Nat) : rlen (ivR R) i = rlen R i := by unfold rlen; rw [ivR_before]; rfl

abbrev rat5 (w' : World) (b o gt ad ln : Nat) (fg bg at_ : Int) : Prop :=
  w'.cell? ⟨b, o, none⟩ = some (.slice (some ⟨gt, ad, none⟩) ln ln) ∧ w'.cell? ⟨b, o + 1, none⟩ = some (.int .u32 fg) ∧ w'.cell? ⟨b, o + 2, none⟩ = some (.int .u32 bg) ∧ w'.cell? ⟨b, o + 3, none⟩ = some (.int .u8 at_)
theorem rat5_below {w w' : World} {b o gt ad ln D : Nat} {x y z : Int} (h : rat5 w b o gt ad ln x y z) (hb : Below D w w') (hD : b < D) : rat5 w' b o gt ad ln x y z := by
  obtain ⟨hc, _⟩ := bcell hb
  obtain ⟨h0, h1, h2, h3⟩ := h
  exact ⟨by rw [hc _ _ hD]; exact h0, by rw [hc _ _ hD]; exact h1, by rw [hc _ _ hD]; exact h2, by rw [hc _ _ hD]; exact h3⟩

set_option maxRecDepth 8000 in
set_option maxHeartbeats 1000000 in
theorem matches_inv (gr ro n gt lT cT cR bT oT bR oR : Nat) (A : Nat → Nat) (aT aR : Option Addr) (R : Nat → RunZ) (B : Nat → Int) (w : World) (hn0 : 0 < n) (hn : n ≤ 65536) (hlT : lT ≤ 1048576)
    (hT : IsBytes w aT lT bT oT B) (hR : IsRuns w aR n bR oR R) (hV : Valid lT n R) (hL : LineIs w gr ro n gt A (ivR R) (fun x => iv8 (B x))) :
    Calls Try.prog 13 #[.slice (some ⟨gr, ro, none⟩) n n, .slice aT lT cT, .slice aR n cR, .bool true] w fun e w' => e = .returned (.bool true) ∧ Below w.heap.size w w' := by
  have hnn : ((n : Int) == 0) = false := by simp; omega
  have hne : ((n : Int) != (n : Int)) = false := by simp
  go_enter Try.func13, Try.ntmps13
  go_wp2
  go_loopg [9, 10] n (fun k p i wr => ∃ j : Nat, j ≤ n ∧ k = n - j ∧ p = .int .i64 (before R j) ∧ i = .int .i64 j ∧ Below w.heap.size w wr)
  case atStart => exact ⟨0, by omega, by omega, rfl, rfl, Below.refl _ _⟩
  case round =>
    obtain ⟨j, hj, rfl, rfl, rfl, hBw⟩ := hrel
    by_cases hlt : j < n
    · obtain rfl := hR.1 (by omega)
      obtain ⟨hgrl, hrc, htx⟩ := hL j hlt
      rw [ivR_rlen, ivR_before] at htx
      obtain ⟨hv1, hv2⟩ := hV j hlt
      have hbf := before_nonneg hV j hlt
      obtain ⟨f, hf⟩ : ∃ f : Nat, before R j = (f : Int) := ⟨(before R j).toNat, by omega⟩
      obtain ⟨ln, hln⟩ : ∃ ln : Nat, ln = rlen R j := ⟨_, rfl⟩
      have he : (R j).1 = (f : Int) + (ln : Int) := by rw [hln]; unfold rlen; omega
      have hr4 := rat4_below (rat4_of hrc) hBw hgrl
      rw [ivR_rlen] at hr4
      rw [← hln] at hr4 htx
      have ha4 := at4_below (at4_of (hR.2 j hlt).1) hBw (hR.lt (by omega))
      have hftl : f + ln ≤ lT := by omega
      have hbfN : (before R j).toNat = f := by omega
      rw [hbfN] at htx
      have h1 := hr4.1
      have h2 := ha4.1
      rw [he] at h2
      have h3 := ha4.2.1
      have h4 := ha4.2.2.2
      have hi3 : (0 : Int) ≤ (j : Int) := by omega
      have hi4 : (j : Int) < (n : Int) := by omega
      have hlnn : ((ln : Int) != (ln : Int)) = false := by simp
      have HA : Hid (rat5 wr gr (ro + j * 4) gt (A j) ln (iv32 (R j).2.1) (R j).2.2.1 (iv8 (R j).2.2.2) ∧ at4 wr bR (oR + j * 4) (R j)) := ⟨hr4, ha4⟩
      have HE : Hid ((R j).1 = (f : Int) + (ln : Int) ∧ ln = rlen R j) := ⟨he, hln⟩
      have HTX : Hid (∀ k, k < ln → gt < w.heap.size ∧ w.cell? ⟨gt, A j + k, none⟩ = some (.int .u8 (iv8 (B (f + k))))) := htx
      have htst : ((f : Int) + (ln : Int) != (f : Int) + (ln : Int)) = false := by simp
      clear hr4 ha4 he hln htx hrc hv1 hv2 hbf hbfN
      go_wp2
      go_loopg [12] ln (fun k i wr2 => ∃ q : Nat, q ≤ ln ∧ k = ln - q ∧ i = .int .i64 q ∧ wr2 = wr)
      case atStart => exact ⟨0, by omega, by omega, rfl, rfl⟩
      case round =>
        obtain ⟨q, hq, rfl, rfl, rfl⟩ := hrel
        by_cases hql : q < ln
        · obtain rfl := hT.1 (by omega)
          have hc1 : wr.cell? ⟨bT, oT + (f + q), none⟩ = some (.int .u8 (B (f + q))) := (hBw.cell (p := ⟨bT, oT + (f + q), none⟩) (hT.lt (by omega))).trans (hT.2 (f + q) (by omega))
          obtain ⟨hgtl, htq⟩ := HTX.out q hql
          have hc2 : wr.cell? ⟨gt, A j + q, none⟩ = some (.int .u8 (iv8 (B (f + q)))) := (hBw.cell (p := ⟨gt, A j + q, none⟩) hgtl).trans htq
          have hl0 : (0 : Int) ≤ (q : Int) := by omega
          have hl1 : (q : Int) < (ln : Int) := by omega
          have hl2 : (0 : Int) ≤ (f : Int) + (q : Int) := by omega
          have hl3 : (f : Int) + (q : Int) < (lT : Int) := by omega
          have hl4 : ((f : Int) + (q : Int)).toNat = f + q := by omega
          have hbb : (iv8 (B (f + q)) != iv8 (B (f + q))) = false := by simp
          clear htq
          go_wp2
          go_roundg (ln - (q + 1))
          case measure => omega
          case rel => exact ⟨q + 1, by omega, rfl, by go_num, rfl⟩
        · obtain rfl : q = ln := by omega
          go_wp2
          have hS : Hid (rat5 wr.drew gr (ro + j * 4) gt (A j) q (iv32 (R j).2.1) (R j).2.2.1 (iv8 (R j).2.2.2) ∧ at4 wr.drew bR (oR + j * 4) (R j)) := HA.out
          have hbl1 : gr < wr.drew.heap.size := by have := hBw.size; simp; omega
          have hbl2 : bR < wr.drew.heap.size := by have := hBw.size; have := hR.lt (by omega); simp; omega
          go_region_held3 (fun w' => rat5 w' gr (ro + j * 4) gt (A j) q (iv32 (R j).2.1) (R j).2.2.1 (iv8 (R j).2.2.2) ∧ at4 w' bR (oR + j * 4) (R j)) (first | exact hS.out | with_reducible assumption)
            (first | (go_at_call 23; refine (style_any _ _ _ _).mono ?_; rintro e w5 ⟨rfl, hb5⟩; have hS5 : rat5 w5 gr (ro + j * 4) gt (A j) q (iv32 (R j).2.1) (R j).2.2.1 (iv8 (R j).2.2.2) ∧ at4 w5 bR (oR + j * 4) (R j) := ⟨rat5_below hS.out.1 hb5 hbl1, at4_below hS.out.2 hb5 hbl2⟩))
          go_wp2
          go_roundg (n - (j + 1))
          case measure => omega
          case rel => exact ⟨j + 1, by omega, rfl, by rw [before_succ, HE.out.1], by go_num, hBw.drew.trans (hb5.mono (by have := hBw.size; simp; omega))⟩
    · go_wp2
      go_ret
      exact ⟨rfl, hBw⟩

end Go.Proofs.Qxb6604013a
