import Derived.Test.Qxb6604013aScript5
import Derived.Deep.QuietTactic
import Derived.BigQuiet
namespace Go.Proofs.Qxb6604013a
open Go.RowKit
set_option linter.unusedVariables false
set_option linter.unusedSimpArgs false
attribute [local go_sem ↓] Go.wp_at_zero Go.wp_at_succ
attribute [local go_sem] iv8_eq iv32_eq iv8_eq' iv32_eq'
attribute [local go_sem ↓] iv8_if iv32_if

theorem below_drewN6 {B : Nat} {a w : World} (h : Below B a w) (n : Nat) : Below B a (w.drewN n) := h.trans ⟨rfl, rfl, rfl, Nat.le_refl _, fun _ _ => rfl⟩
theorem three_setD {w' : World} {b1 o1 b2 o2 b3 o3 g o : Nat} {v x1 x2 x3 : Value} (h : w'.cell? ⟨b1, o1, none⟩ = some x1 ∧ w'.cell? ⟨b2, o2, none⟩ = some x2 ∧ w'.cell? ⟨b3, o3, none⟩ = some x3) (h1 : b1 ≠ g) (h2 : b2 ≠ g) (h3 : b3 ≠ g) :
    (w'.setCell ⟨g, o, none⟩ v).drew.cell? ⟨b1, o1, none⟩ = some x1 ∧ (w'.setCell ⟨g, o, none⟩ v).drew.cell? ⟨b2, o2, none⟩ = some x2 ∧ (w'.setCell ⟨g, o, none⟩ v).drew.cell? ⟨b3, o3, none⟩ = some x3 := three_set h h1 h2 h3

set_option maxRecDepth 16000 in
set_option maxHeartbeats 4000000 in
theorem law4_main (a0 a1 : Option Addr) (n0 c0 n1 c1 b0 o0 b1 o1 : Nat) (aA aR : Nat → Option Addr) (lA cA bA oA lR cR bR oR : Nat → Nat) (B : Nat → Nat → Int) (R : Nat → Nat → RunZ) (w : World) (h0 : IsRow2 w a0 n0 b0 o0 aA lA cA) (h1 : IsRow2 w a1 n1 b1 o1 aR lR cR)
    (hI0 : ∀ i, i < n0 → IsBytes w (aA i) (lA i) (bA i) (oA i) (B i)) (hI1 : ∀ i, i < n1 → IsRuns w (aR i) (lR i) (bR i) (oR i) (R i)) (hN0 : ∀ i, i < n0 → aA i = none → lA i = 0 ∧ cA i = 0) (hN1 : ∀ i, i < n1 → aR i = none → lR i = 0 ∧ cR i = 0)
    (hz0 : a0 = none → n0 = 0 ∧ c0 = 0) (hz1 : a1 = none → n1 = 0 ∧ c1 = 0) (hs : n0 + su lA n0 + n1 + su lR n1 ≤ 1048576) (hn : 24 * n0 + 24 * n1 ≤ 1048576) :
    Calls Try.prog 4 #[.slice a0 n0 c0, .slice a1 n1 c1] w fun e w' => e = .returned (.bool true) ∧ Below w.heap.size w w' := by
  have hd0 : decide ((65536 : Int) < (n0 : Int)) = false := decide_eq_false (by omega)
  have hd1 : decide ((65536 : Int) < (n1 : Int)) = false := decide_eq_false (by omega)
  have HH : Hid (n0 + su lA n0 + n1 + su lR n1 ≤ 1048576) := hs
  have HI0 : Hid _ := hI0
  have HI1 : Hid _ := hI1
  have HN0 : Hid _ := hN0
  have HN1 : Hid _ := hN1
  have HZ0 : Hid _ := hz0
  have HZ1 : Hid _ := hz1
  have HlA : Hid (∀ i, i < n0 → lA i ≤ 1048576) := fun i hi => by have := su_at lA hi; omega
  have HlR : Hid (∀ i, i < n1 → lR i ≤ 1048576) := fun i hi => by have := su_at lR hi; omega
  clear hs hI0 hI1 hN0 hN1 hz0 hz1
  go_enter Try.func4, Try.ntmps4
  go_wp2_with (go_at_call 14; refine (bytes14_yes _ _ _ _ _ _ b0 o0 b1 o1 aA aR lA cA lR cR _ h0 h1 HH.out).mono ?_; rintro e w1 ⟨rfl, rfl⟩)
  go_loopg [5, 6] n0 (fun k t q wr => ∃ i s : Nat, i ≤ n0 ∧ k = n0 - i ∧ t = .int .i64 (s : Int) ∧ q = .int .i64 (i : Int) ∧ s ≤ 1048576 ∧ w = wr)
  case atStart => exact ⟨0, 24 * n0 + 24 * n1, by omega, rfl, by go_num, rfl, hn, rfl⟩
  case round =>
    obtain ⟨i, s, hi, rfl, rfl, rfl, hsb, rfl⟩ := hrel
    by_cases hlt : i < n0
    · obtain rfl := h0.at_ (by omega)
      have hc := h0.cell i hlt
      have hl0 : (0 : Int) ≤ (i : Int) := by omega
      have hl1 : (i : Int) < (n0 : Int) := by omega
      have hm := HlA.out i hlt
      generalize lA i = m at hc hm
      by_cases hb1 : s + m ≤ 1048576
      · go_wp2
        go_roundg (n0 - (i + 1))
        case measure => omega
        case rel => exact ⟨i + 1, s + m, by omega, rfl, by go_num, by go_num, hb1, rfl⟩
      · go_wp2
        go_ret
        exact ⟨rfl, Below.refl _ _⟩
    · obtain rfl : i = n0 := by omega
      go_wp2
      go_loopg [5, 7] n1 (fun k t q wr => ∃ j u : Nat, j ≤ n1 ∧ k = n1 - j ∧ t = .int .i64 (u : Int) ∧ q = .int .i64 (j : Int) ∧ (∀ p, p < j → lR p ≤ 65536) ∧ u ≤ 1048576 ∧ w = wr)
      case atStart => exact ⟨0, s, by omega, rfl, by go_num, rfl, (fun p hp => by omega), hsb, rfl⟩
      case round =>
        clear hsb
        obtain ⟨j, u, hj, rfl, rfl, rfl, hu, hub, rfl⟩ := hrel
        have HU : Hid (∀ p, p < j → lR p ≤ 65536) := hu
        clear hu
        by_cases hlt2 : j < n1
        · obtain rfl := h1.at_ (by omega)
          have hc := h1.cell j hlt2
          have hl0 : (0 : Int) ≤ (j : Int) := by omega
          have hl1 : (j : Int) < (n1 : Int) := by omega
          by_cases hm : lR j ≤ 65536
          · have HU2 : Hid (∀ p, p < j + 1 → lR p ≤ 65536) := fun p hp => by
              rcases Nat.lt_or_ge p j with h | h
              · exact HU.out p h
              · obtain rfl : p = j := by omega
                exact hm
            generalize lR j = m at hc hm
            by_cases hb1 : u + 16 * m ≤ 1048576
            · go_wp2
              go_roundg (n1 - (j + 1))
              case measure => omega
              case rel => exact ⟨j + 1, u + 16 * m, by omega, rfl, by go_num, by go_num, HU2.out, hb1, rfl⟩
            · go_wp2
              go_ret
              exact ⟨rfl, Below.refl _ _⟩
          · have hm2 := HlR.out j hlt2
            generalize lR j = m at hc hm hm2
            go_wp2
            go_ret
            exact ⟨rfl, Below.refl _ _⟩
        · obtain rfl : j = n1 := by omega
          clear hub
          go_upto_if 97 with (first | (go_at_call 15; refine (cloneTexts_any a0 i c0 b0 o0 aA lA cA bA oA B _ (by omega) HZ0.out h0 HI0.out HN0.out HlA.out).mono ?_; rintro e w1 ⟨aT, cT, bT, tA, tC, tB, rfl, hT1, hTI1, hTN1, hb1⟩; have HTI : Hid _ := hTI1; have HTN : Hid _ := hTN1; clear hTI1 hTN1) | (go_at_call 16; refine (cloneLists_any a1 j c1 b1 o1 aR lR cR bR oR R _ (by omega) HZ1.out (h1.below hb1) (fun q hq => (HI1.out q hq).below hb1) HN1.out HU.out).mono ?_; rintro e w2 ⟨aS, cS, bS, sA, sC, sB, rfl, hS2, hSI2, hSN2, hb2⟩; have HSI : Hid _ := hSI2; have HSN : Hid _ := hSN2; clear hSI2 hSN2))
          have hT2 := hT1.below hb2
          have HTI2 : Hid (∀ q, q < i → IsBytes w2 (tA q) (lA q) (tB q) 0 (B q)) := fun q hq => (HTI.out q hq).below hb2
          have hW2 : Below w.heap.size w w2 := hb1.trans (hb2.mono hb1.size)
          clear hT1 HTI hb1 hb2 HI0 HI1 HN0 HN1 HZ0 HZ1 h0 h1 HH
          go_cut [8] from 94 to 99 (fun s wx => ∃ nn : Nat, s = .int .i64 (nn : Int) ∧ nn ≤ i ∧ nn ≤ j ∧ w2 = wx)
          case first =>
            by_cases hc : j < i
            · go_wp2
              go_meet
              exact ⟨j, rfl, by omega, by omega, rfl⟩
            · go_wp2
              go_meet
              exact ⟨i, rfl, by omega, by omega, rfl⟩
          case rest =>
            obtain ⟨nn, rfl, hnn0, hnn1, rfl⟩ := hcut
            go_wp2_with (at_make; refine wpList_make_blk (by rfl) (.tmp 100) (.tmp 100) 27 (by rfl) 22 _ 1 24 Try.underlying27 info22 (by rfl) nn (by rfl) (by rfl) (by omega) (by omega) ?_; intro w3a hT3 hb3 hs3)
            have hL3 : (Rep nn (Value.slice none 0 0).cells.toList).length = nn := by rw [Rep_length]; simp [Value.cells]
            have hT0 : RowP (fun q W v => InOk W (w2.heap.size + 1) (lA q) (B q) v) w3a w2.heap.size 22 nn 0 := ⟨_, hT3, hL3, fun q hq => by omega⟩
            clear hT3 hL3
            go_loopg [10] nn (fun k q wr => ∃ r : Nat, r ≤ nn ∧ k = nn - r ∧ q = .int .i64 r ∧ RowP (fun q W v => InOk W (w2.heap.size + 1) (lA q) (B q) v) wr w2.heap.size 22 nn r ∧ w2.heap.size + 1 ≤ wr.heap.size ∧ Below w2.heap.size w2 wr)
            case atStart => exact ⟨0, by omega, by omega, rfl, hT0, by omega, hb3⟩
            case round =>
              clear hT0 hb3 hs3
              obtain ⟨r, hr, rfl, rfl, hRow, hsz, hBw⟩ := hrel
              by_cases hlt3 : r < nn
              · obtain rfl := hT2.at_ (by omega)
                have hc : wr.cell? ⟨bT, r, none⟩ = some (.slice (tA r) (lA r) (tC r)) := by
                  have := hT2.cell r (by omega)
                  rw [Nat.zero_add] at this
                  exact (hBw.cell (p := ⟨bT, r, none⟩) (hT2.lt (by omega))).trans this
                have hl0 : (0 : Int) ≤ (r : Int) := by omega
                have hl1 : (r : Int) < (nn : Int) := by omega
                have hl2 : (r : Int) < (i : Int) := by omega
                have hIj := (HTI2.out r (by omega)).below hBw
                have HN : Hid (tA r = none → lA r = 0 ∧ tC r = 0) := HTN.out r (by omega)
                have hlj := HlA.out r (by omega)
                go_wp2_with (go_at_call 9; refine (cloneBytes_any (tA r) (lA r) (tC r) (tB r) 0 (B r) _ hlj HN.out hIj).mono ?_; rintro e w5 ⟨a5, c5, b5, rfl, hB5, hO5, hN5, hb5⟩; obtain ⟨⟨x5, hx5⟩, hf5⟩ := hRow.at hb5 hlt3)
                have HO : Hid _ := hO5
                have HN5 : Hid _ := hN5
                go_roundg (nn - (r + 1))
                case measure => omega
                case rel =>
                  have hs5 := hb5.size
                  have hex := Ex.made (g := w2.heap.size) hb5 r (.slice a5 (lA r) c5)
                  have hex5 : Ex (fun k => k = w2.heap.size) w5 (w5.setCell ⟨w2.heap.size, r, none⟩ (.slice a5 (lA r) c5)) := Ex.made (Below.refl _ w5) r _
                  have hne : 0 < lA r → ¬ b5 = w2.heap.size := fun h => by have := (HO.out h).1; omega
                  refine ⟨r + 1, by omega, rfl, by go_num, hRow.step hb5 hlt3 (fun q u hq => InOk.ex hq hex (fun k hk => by omega)) ?_, by simp; omega, (hBw.trans (hb5.mono (by omega))).setCell (by simp) _⟩
                  exact ⟨a5, c5, b5, rfl, hB5.ex hex5 hne, fun h => ⟨by have := (HO.out h).1; omega, (HO.out h).2.ex hex5 (hne h)⟩, HN5.out⟩
              · obtain rfl : nn = r := by omega
                obtain ⟨w3, hw3⟩ : ∃ w3, w3 = wr := ⟨_, rfl⟩
                subst hw3
                obtain ⟨iA, iC, iB, hin, hinQ⟩ := rowP_open (lA := lA) hRow (fun q a c b => IsBytes w3 a (lA q) b 0 (B q) ∧ (0 < lA q → w2.heap.size + 1 ≤ b ∧ Blk w3 b 5 (bl (B q) (lA q)))) (fun q v _ hv => by obtain ⟨a, c, b, k1, k2, k3, _⟩ := hv; exact ⟨a, c, b, k1, k2, k3⟩)
                have HIN : Hid _ := hin
                have HINQ : Hid _ := hinQ
                clear hin hinQ hRow
                go_wp2_with (first | (at_make; refine wpList_make_blk (by rfl) (.tmp 115) (.tmp 115) 33 (by rfl) 38 _ 1 24 Try.underlying33 info38 (by rfl) nn (by rfl) (by rfl) (by omega) (by omega) ?_; intro w4 hG hb4 hs4) | (at_make; refine wpList_make_blk (by rfl) (.tmp 117) (.tmp 117) 50 (by rfl) 4 _ 1 1 Try.underlying50 info4 (by rfl) nn (by rfl) (by rfl) (by omega) (by omega) ?_; intro w5 hK hb5 hs5))
                have hG6 : Blk (w5.alloc (.cells mem0.toArray 36)) w3.heap.size 38 (Rep nn (Value.slice none 0 0).cells.toList) := (hG.below hb5 (by omega)).alloc _
                have hK6 : Blk (w5.alloc (.cells mem0.toArray 36)) (w3.heap.size + 1) 4 (Rep nn (Value.bool false).cells.toList) := by rw [← hs4]; exact hK.alloc _
                have hM6 : Blk (w5.alloc (.cells mem0.toArray 36)) (w3.heap.size + 2) 36 mem0 := by have := Blk.new w5 36 mem0; rwa [hs5, hs4] at this
                have hB6 : Below w3.heap.size w3 (w5.alloc (.cells mem0.toArray 36)) := (hb4.trans (hb5.mono (by omega))).alloc (by omega) _
                obtain ⟨vb, hvb⟩ : ∃ vb : Nat → Bool, ∀ q, vb q = true ↔ Valid (lA q) (lR q) (R q) := ⟨fun q => @decide _ (Classical.propDecidable (Valid (lA q) (lR q) (R q))), fun q => @decide_eq_true_iff _ (Classical.propDecidable _)⟩
                have HVB : Hid (∀ q, vb q = true ↔ Valid (lA q) (lR q) (R q)) := hvb
                have hL6 := L4.start (vb := vb) (lA := lA) (lR := lR) (R := R) (B := B) nn hG6 hK6 hM6
                clear hG hK hG6 hK6 hM6 hvb hb4 hb5 hs4 hs5
                go_loopg [14] nn (fun k q wr => ∃ (r : Nat) (LG LK M : List Value) (hvT : Value) (pT : Nat) (hvR : Value) (pR : Nat) (ckT ckR : List Ck) (ln : Nat → LRec), r ≤ nn ∧ k = nn - r ∧ q = .int .i64 r ∧ L4 wr w3.heap.size nn r r vb lA lR R B LG LK M hvT pT hvR pR ckT ckR ln ∧ Below w3.heap.size w3 wr)
                case atStart => exact ⟨0, _, _, _, _, _, _, _, _, _, _, by omega, by omega, rfl, hL6, hB6⟩
                case round =>
                  clear hL6 hB6
                  obtain ⟨r, LG, LK, M, hvT, pT, hvR, pR, ckT, ckR, ln, hr, rfl, rfl, hL, hBr⟩ := hrel
                  have hsz3 := hBr.size
                  have hszL := hL.sz
                  have hBr2 : Below w2.heap.size w2 wr := hBw.trans (hBr.mono (by omega))
                  by_cases hlt4 : r < nn
                  · obtain rfl := hT2.at_ (by omega)
                    obtain rfl := hS2.at_ (by omega)
                    have hbT := hT2.lt (by omega)
                    have hbS := hS2.lt (by omega)
                    have hct : wr.cell? ⟨bT, r, none⟩ = some (.slice (tA r) (lA r) (tC r)) := by
                      have := hT2.cell r (by omega)
                      rw [Nat.zero_add] at this
                      exact (hBr2.cell (p := ⟨bT, r, none⟩) hbT).trans this
                    have hcs : wr.cell? ⟨bS, r, none⟩ = some (.slice (sA r) (lR r) (sC r)) := by
                      have := hS2.cell r (by omega)
                      rw [Nat.zero_add] at this
                      exact (hBr2.cell (p := ⟨bS, r, none⟩) hbS).trans this
                    have hci : wr.cell? ⟨w2.heap.size, r, none⟩ = some (.slice (iA r) (lA r) (iC r)) := (hBr.cell (p := ⟨w2.heap.size, r, none⟩) (show w2.heap.size < w3.heap.size by omega)).trans (HIN.out r hlt4)
                    have hl0 : (0 : Int) ≤ (r : Int) := by omega
                    have hl1 : (r : Int) < (nn : Int) := by omega
                    have hl2 : (r : Int) < (i : Int) := by omega
                    have hl3 : (r : Int) < (j : Int) := by omega
                    have hlA := HlA.out r (by omega)
                    have hlR := HU.out r (by omega)
                    have HRn : Hid (IsRuns wr.drew (sA r) (lR r) (sB r) 0 (R r)) := (HSI.out r (by omega)).below hBr2.drew
                    have HS1 : Hid (wr.drew.cell? ⟨bT, r, none⟩ = some (.slice (tA r) (lA r) (tC r)) ∧ wr.drew.cell? ⟨bS, r, none⟩ = some (.slice (sA r) (lR r) (sC r))) := ⟨hct, hcs⟩
                    cases ht : vb r with
                    | false =>
                      have HT : Hid (¬ Valid (lA r) (lR r) (R r)) := fun hv => by have := (HVB.out r).2 hv; rw [ht] at this; cases this
                      have HL : Hid _ := hL.drew.dead ht
                      clear hct hcs hci ht hL
                      go_wp2
                      go_region_held3 (fun w' => w'.cell? ⟨bT, r, none⟩ = some (.slice (tA r) (lA r) (tC r)) ∧ w'.cell? ⟨bS, r, none⟩ = some (.slice (sA r) (lR r) (sC r))) (first | exact HS1.out | with_reducible assumption)
                        (first | (go_at_call 8; refine (valid_dec _ _ _ _ _ _ (sB r) 0 (R r) false _ hlA (by omega) HRn.out ⟨(fun h => by cases h), fun h => absurd h HT.out⟩).mono ?_; rintro e w7 ⟨rfl, rfl⟩; have hS7 := HS1.out))
                      go_wp2
                      go_roundg (nn - (r + 1))
                      case measure => omega
                      case rel => exact ⟨r + 1, _, _, _, _, _, _, _, _, _, _, by omega, rfl, by go_num, HL.out, hBr.drew⟩
                    | true =>
                      have HT : Hid (Valid (lA r) (lR r) (R r)) := (HVB.out r).1 ht
                      have hLo := hL.okset ht hlt4
                      have hxk : wr.cell? ⟨w3.heap.size + 1, r, none⟩ = some LK[r]! := by rw [hL.ok.cell]; have := hL.okl; simp [this, hlt4]
                      have hfk : wr.frozen? ⟨w3.heap.size + 1, r, none⟩ = false := hL.ok.frozen r
                      have HL : Hid _ := hLo
                      clear hct hcs hci hL hLo
                      go_wp2
                      go_region_held3 (fun w' => w'.cell? ⟨bT, r, none⟩ = some (.slice (tA r) (lA r) (tC r)) ∧ w'.cell? ⟨bS, r, none⟩ = some (.slice (sA r) (lR r) (sC r))) (first | exact HS1.out | with_reducible assumption)
                        (first | (go_at_call 8; refine (valid_dec _ _ _ _ _ _ (sB r) 0 (R r) true _ hlA (by omega) HRn.out ⟨fun _ => HT.out, fun _ => rfl⟩).mono ?_; rintro e w7 ⟨rfl, rfl⟩; have hS7 := HS1.out))
                      go_wp2
                      obtain ⟨W7, hW7⟩ : ∃ W7, W7 = (wr.setCell ⟨w3.heap.size + 1, r, none⟩ (.bool true)).drew := ⟨_, rfl⟩
                      have hBr7 : Below w3.heap.size w3 W7 := by rw [hW7]; exact (hBr.setCell (by simp) _).drew
                      have hL7 := HL.out.drew
                      rw [← hW7] at hL7 ⊢
                      clear hW7 HL hxk hfk HS1 HRn hS7 hBr2 hszL hsz3
                      have hsz7 := hL7.sz
                      have hBr72 : Below w2.heap.size w2 W7 := hBw.trans (hBr7.mono (by omega))
                      have hct : W7.drew.cell? ⟨bS, r, none⟩ = some (.slice (sA r) (lR r) (sC r)) := by
                        have := hS2.cell r (by omega)
                        rw [Nat.zero_add] at this
                        exact (hBr72.drew.cell (p := ⟨bS, r, none⟩) hbS).trans this
                      have hci : W7.drew.cell? ⟨w2.heap.size, r, none⟩ = some (.slice (iA r) (lA r) (iC r)) := (hBr7.drew.cell (p := ⟨w2.heap.size, r, none⟩) (show w2.heap.size < w3.heap.size by omega)).trans (HIN.out r hlt4)
                      have HS2 : Hid (W7.drew.cell? ⟨w2.heap.size, r, none⟩ = some (.slice (iA r) (lA r) (iC r)) ∧ W7.drew.cell? ⟨bS, r, none⟩ = some (.slice (sA r) (lR r) (sC r))) := ⟨hci, hct⟩
                      clear hct hci
                      have HRn7 : Hid (IsRuns W7.drew (sA r) (lR r) (sB r) 0 (R r)) := (HSI.out r (by omega)).below hBr72.drew
                      have hne1 : w2.heap.size ≠ w3.heap.size := by omega
                      have hne2 : bS ≠ w3.heap.size := by omega
                      have hsd : W7.drew.heap.size = W7.heap.size := rfl
                      have HL7 : Hid _ := hL7.drew
                      clear hL7
                      by_cases hR0 : lR r = 0
                      · have HR0 : Hid (lR r = 0) := hR0
                        clear hR0
                        go_region_held3 (fun w' => w'.cell? ⟨w2.heap.size, r, none⟩ = some (.slice (iA r) (lA r) (iC r)) ∧ w'.cell? ⟨bS, r, none⟩ = some (.slice (sA r) (lR r) (sC r))) (first | exact HS2.out | with_reducible assumption | with_reducible exact two_set (by assumption) hne1 hne2)
                          (first
                            | (go_at_call 12; refine (pack_any _ _ _ _ _ _ (sB r) 0 (R r) _ hlR HRn7.out).mono ?_; rintro e w8 ⟨rfl, hg8, hb8⟩; have hS8 := two_below HS2.out hb8 (by omega) (by omega))
                            | (go_at_call 11; refine (madd_none' _ _ _ _ _ _ _ _ HR0.out).mono ?_; rintro e w9 ⟨rfl, hb9⟩; have hs8 := hb8.size; have hS9 := two_below hS8 hb9 (by omega) (by omega); have hL9 := (HL7.out.below hb8).below hb9; have hxg : w9.cell? ⟨w3.heap.size, r, none⟩ = some LG[r]! := (by rw [hL9.got.cell]; have := hL9.gotl; simp [this, hlt4]); have hfg : w9.frozen? ⟨w3.heap.size, r, none⟩ = false := hL9.got.frozen r))
                        have hLe : Hid _ := hL9.none_ HR0.out hlt4
                        have hBe : Hid _ := ((hBr7.drew.trans (hb8.mono (by omega))).trans (hb9.mono (by have := hb8.size; omega))).setCell (p := ⟨w3.heap.size, r, none⟩) (by simp) (.slice none 0 0)
                        clear hL9 hxg hfg
                        go_wp2
                        go_roundg (nn - (r + 1))
                        case measure => omega
                        case rel => exact ⟨r + 1, _, _, _, _, _, _, _, _, _, _, by omega, rfl, by go_num, hLe.out, hBe.out⟩
                      · have hR1 : 0 < lR r := by omega
                        clear hR0
                        have HIB : Hid (0 < lA r → iB r < w3.heap.size) := fun h => (HINQ.out r hlt4).1.lt h
                        go_region_held3 (fun w' => w'.cell? ⟨w2.heap.size, r, none⟩ = some (.slice (iA r) (lA r) (iC r)) ∧ w'.cell? ⟨bS, r, none⟩ = some (.slice (sA r) (lR r) (sC r))) (first | exact HS2.out | with_reducible assumption | with_reducible exact two_set (by assumption) hne1 hne2)
                          (first
                            | (go_at_call 12; refine (pack_any _ _ _ _ _ _ (sB r) 0 (R r) _ hlR HRn7.out).mono ?_; rintro e w8 ⟨rfl, hg8, hb8⟩; have hS8 := two_below HS2.out hb8 (by omega) (by omega); have hL8 := HL7.out.below hb8; have hB8 := hBr7.drew.trans (hb8.mono (by omega)); have hs8 := hb8.size)
                            | (go_at_call 11; refine (madd_some (w3.heap.size + 2) (w3.heap.size + 3) (lA r) (iC r) (lR r) (W7.drew.heap.size + 1) (iB r) 0 (iA r) M ckT ckR hvT hvR pT pR (R r) (B r) _ hR1 hlR hlA hL8.mem hL8.m0 hL8.m1 hL8.m2 hL8.m3 hL8.aT hL8.aR (by omega) (by omega) (by have := hL8.cT; omega) (by have := hL8.cR; omega) ((HINQ.out r hlt4).1.belowB hB8 HIB.out) (fun h => by have := HIB.out h; omega) hg8 (by omega) HT.out).mono ?_; intro e w9 hans; obtain ⟨g9, o9, rfl⟩ := hans.value; have hb9 := hans.frame (by omega) (by omega); have hS9 := two_below hS8 hb9 (by omega) (by omega); have hG9 := hL8.got.below hb9 (by omega); have hxg : w9.cell? ⟨w3.heap.size, r, none⟩ = some LG[r]! := (by rw [hG9.cell]; have := hL8.gotl; simp [this, hlt4]); have hfg : w9.frozen? ⟨w3.heap.size, r, none⟩ = false := hG9.frozen r))
                        have hLe : Hid _ := hL8.some_ ht hR1 hlt4 hans
                        have hBe : Hid _ := (hB8.trans (hb9.mono (by omega))).setCell (p := ⟨w3.heap.size, r, none⟩) (by simp) (.slice (some ⟨g9, o9, none⟩) (lR r) (lR r))
                        clear hL8 hxg hfg hans hG9
                        go_wp2
                        go_roundg (nn - (r + 1))
                        case measure => omega
                        case rel =>
                          obtain ⟨LG', M', hvT', pT', hvR', pR', ckT', ckR', ln', hLf⟩ := hLe.out
                          exact ⟨r + 1, _, _, _, _, _, _, _, _, _, _, by omega, rfl, by go_num, hLf, hBe.out⟩
                  · obtain rfl : nn = r := by omega
                    obtain ⟨w6, hw6⟩ : ∃ w6, w6 = wr := ⟨_, rfl⟩
                    subst hw6
                    have hVp : Hid (∀ p, p < nn → lv vb lR p → Valid (lA p) (lR p) (R p)) := fun p _ h => (HVB.out p).1 h.1
                    have HAp : Hid _ := hL.ls.apart hVp.out
                    have HSt6 : Hid _ := hL.ls.start hVp.out hL.aT hL.aR
                    have HLs6 : Hid _ := hL.ls
                    have HOK6 : Hid (∀ q, q < nn → w6.cell? ⟨w3.heap.size + 1, q, none⟩ = some (.bool (vb q))) := fun q hq => by rw [hL.ok.cell, hL.okv q hq, if_pos hq]
                    have HGN6 : Hid (∀ q, q < nn → ¬ lv vb lR q → w6.cell? ⟨w3.heap.size, q, none⟩ = some (.slice none 0 0)) := fun q hq h => by rw [hL.got.cell]; exact hL.gotn q hq (fun hh => h hh.2)
                    have HGV6 : Hid (∀ q, q < nn → lv vb lR q → w6.cell? ⟨w3.heap.size, q, none⟩ = some (.slice (some ⟨(ln q).gr, (ln q).kr * 4, none⟩) (lR q) (lR q))) := fun q hq h => by rw [hL.got.cell]; exact hL.gotv q hq ⟨hq, h⟩
                    have HI6 : In5 w6 nn lA iB := fun q hq hl => by
                      have hB := (HINQ.out q hq).2 hl
                      exact ⟨_, hB.2.below hBr hB.2.lt, bl_length _ _⟩
                    have HIBr : Hid (∀ q, q < nn → 0 < lA q → w2.heap.size < iB q ∧ iB q < w3.heap.size ∧ iA q = some ⟨iB q, 0, none⟩) := fun q hq hl => by
                      have hB := HINQ.out q hq
                      exact ⟨by have := (hB.2 hl).1; omega, (hB.2 hl).2.lt, hB.1.1 hl⟩
                    have HN6 : Hid (w3.heap.size + 3 ≤ w6.heap.size) := hL.sz
                    clear hL
                    go_wp2
                    go_loopg [15] nn (fun k q wr => ∃ r : Nat, r ≤ nn ∧ k = nn - r ∧ q = .int .i64 r ∧ Ex (fun b => w2.heap.size < b ∧ b < w3.heap.size) w6 wr ∧ In5 wr nn lA iB)
                    case atStart => exact ⟨0, by omega, by omega, rfl, Ex.refl _ _, HI6⟩
                    case round =>
                      clear HI6
                      obtain ⟨r, hr, rfl, rfl, hx5, hI5⟩ := hrel
                      by_cases hlt5 : r < nn
                      · obtain rfl := hT2.at_ (by omega)
                        have hbT := hT2.lt (by omega)
                        have hl0 : (0 : Int) ≤ (r : Int) := by omega
                        have hl1 : (r : Int) < (nn : Int) := by omega
                        have hl2 : (r : Int) < (i : Int) := by omega
                        have hlA := HlA.out r (by omega)
                        go_wp2
                        go_loopg [16] (lA r) (fun k q wr => ∃ x : Nat, x ≤ lA r ∧ k = lA r - x ∧ q = .int .i64 x ∧ Ex (fun b => w2.heap.size < b ∧ b < w3.heap.size) w6 wr ∧ In5 wr nn lA iB)
                        case atStart => exact ⟨0, by omega, by omega, rfl, hx5, hI5⟩
                        case round =>
                          clear hx5 hI5
                          obtain ⟨x, hx, rfl, rfl, hx5, hI5⟩ := hrel
                          have hBx : Below w2.heap.size w2 wr := (hBw.trans (hBr.mono (by omega))).trans (hx5.below (by omega) (fun k hk => by omega))
                          have hci : wr.cell? ⟨w2.heap.size, r, none⟩ = some (.slice (iA r) (lA r) (iC r)) :=
                            (World.cell?_of_block (w := w6) (w' := wr) (a := ⟨w2.heap.size, r, none⟩) (hx5.block w2.heap.size (by omega) (by omega))).trans ((hBr.cell (p := ⟨w2.heap.size, r, none⟩) (show w2.heap.size < w3.heap.size by omega)).trans (HIN.out r hlt5))
                          by_cases hlx : x < lA r
                          · obtain ⟨hib1, hib2, hiA⟩ := HIBr.out r hlt5 (by omega)
                            rw [hiA] at hci
                            have hTr := HTI2.out r (by omega)
                            have htA := hTr.1 (by omega)
                            have hct : wr.cell? ⟨bT, r, none⟩ = some (.slice (tA r) (lA r) (tC r)) := by
                              have := hT2.cell r (by omega)
                              rw [Nat.zero_add] at this
                              exact (hBx.cell (p := ⟨bT, r, none⟩) hbT).trans this
                            rw [htA] at hct
                            have hbt := hTr.lt (by omega)
                            have hcb : wr.cell? ⟨tB r, x, none⟩ = some (.int .u8 (B r x)) := by
                              have := hTr.2 x hlx
                              rw [Nat.zero_add] at this
                              exact (hBx.cell (p := ⟨tB r, x, none⟩) hbt).trans this
                            obtain ⟨LI, hLI, hLIl⟩ := hI5 r hlt5 (by omega)
                            have hxt : wr.cell? ⟨iB r, x, none⟩ = some LI[x]! := by rw [hLI.cell]; simp [hLIl, hlx]
                            have hft : wr.frozen? ⟨iB r, x, none⟩ = false := hLI.frozen x
                            have hm0 : (0 : Int) ≤ (x : Int) := by omega
                            have hm1 : (x : Int) < (lA r : Int) := by omega
                            have HS3 : Hid (wr.drew.cell? ⟨w2.heap.size, r, none⟩ = some (.slice (some ⟨iB r, 0, none⟩) (lA r) (iC r)) ∧ wr.drew.cell? ⟨bT, r, none⟩ = some (.slice (some ⟨tB r, 0, none⟩) (lA r) (tC r)) ∧ wr.drew.cell? ⟨tB r, x, none⟩ = some (.int .u8 (B r x))) := ⟨hci, hct, hcb⟩
                            have HS3w : Hid (wr.cell? ⟨w2.heap.size, r, none⟩ = some (.slice (some ⟨iB r, 0, none⟩) (lA r) (iC r)) ∧ wr.cell? ⟨bT, r, none⟩ = some (.slice (some ⟨tB r, 0, none⟩) (lA r) (tC r)) ∧ wr.cell? ⟨tB r, x, none⟩ = some (.int .u8 (B r x))) := ⟨hci, hct, hcb⟩
                            have hne1 : w2.heap.size ≠ iB r := by omega
                            have hne2 : bT ≠ iB r := by omega
                            have hne3 : tB r ≠ iB r := by omega
                            have HE : Hid _ := (hx5.trans ((exD1 wr (iB r) x (.int .u8 (iv8 (B r x)))).mono (T := fun b => w2.heap.size < b ∧ b < w3.heap.size) (fun k _ hk => by omega))).drew
                            have HI : Hid (In5 (wr.setCell ⟨iB r, x, none⟩ (.int .u8 (iv8 (B r x)))).drew nn lA iB) := hI5.set (iB r) x (.int .u8 (iv8 (B r x)))
                            clear hiA htA hTr hLI hLIl hI5
                            go_wp2
                            go_region_held3 (fun w' => w'.cell? ⟨w2.heap.size, r, none⟩ = some (.slice (some ⟨iB r, 0, none⟩) (lA r) (iC r)) ∧ w'.cell? ⟨bT, r, none⟩ = some (.slice (some ⟨tB r, 0, none⟩) (lA r) (tC r)) ∧ w'.cell? ⟨tB r, x, none⟩ = some (.int .u8 (B r x))) (first | exact HS3.out | with_reducible assumption | with_reducible exact three_setD HS3w.out hne1 hne2 hne3) (fail)
                            go_wp2
                            go_roundg (lA r - (x + 1))
                            case measure => omega
                            case rel => exact ⟨x + 1, by omega, rfl, by go_num, HE.out, HI.out⟩
                          · go_wp2
                            go_roundg (nn - (r + 1))
                            case measure => omega
                            case rel => exact ⟨r + 1, by omega, rfl, by go_num, hx5, hI5⟩
                      · obtain rfl : nn = r := by omega
                        obtain ⟨w7, hw7⟩ : ∃ w7, w7 = wr := ⟨_, rfl⟩
                        subst hw7
                        have hs6 := hBr.size
                        have hs7 := hx5.size
                        have hB7 : Below w2.heap.size w2 w7 := (hBw.trans (hBr.mono (by omega))).trans (hx5.below (by omega) (fun k hk => by omega))
                        have hN6 : w3.heap.size + 3 ≤ w6.heap.size := HN6.out
                        have HLs7 : Hid _ := HLs6.out.ex hx5 (fun k hk => by omega)
                        have HSt7 : Hid _ := HSt6.out.ex HAp.out hx5 (fun k hk => by omega)
                        have HOK : Hid (∀ q, q < nn → w7.cell? ⟨w3.heap.size + 1, q, none⟩ = some (.bool (vb q))) := fun q hq => (World.cell?_of_block (w := w6) (w' := w7) (a := ⟨w3.heap.size + 1, q, none⟩) (hx5.block (w3.heap.size + 1) (by omega) (by omega))).trans (HOK6.out q hq)
                        have HGN : Hid (∀ q, q < nn → ¬ lv vb lR q → w7.cell? ⟨w3.heap.size, q, none⟩ = some (.slice none 0 0)) := fun q hq h => (World.cell?_of_block (w := w6) (w' := w7) (a := ⟨w3.heap.size, q, none⟩) (hx5.block w3.heap.size (by omega) (by omega))).trans (HGN6.out q hq h)
                        have HGV : Hid (∀ q, q < nn → lv vb lR q → w7.cell? ⟨w3.heap.size, q, none⟩ = some (.slice (some ⟨(ln q).gr, (ln q).kr * 4, none⟩) (lR q) (lR q))) := fun q hq h => (World.cell?_of_block (w := w6) (w' := w7) (a := ⟨w3.heap.size, q, none⟩) (hx5.block w3.heap.size (by omega) (by omega))).trans (HGV6.out q hq h)
                        clear HOK6 HGN6 HGV6 HLs6 HSt6 hx5 hI5 HIBr HIN HINQ hBr hBw
                        go_wp2
                        go_loopg [17] nn (fun k q wr => ∃ r : Nat, r ≤ nn ∧ k = nn - r ∧ q = .int .i64 r ∧ Below w7.heap.size w7 wr)
                        case atStart => exact ⟨0, by omega, by omega, rfl, Below.refl _ _⟩
                        case round =>
                          obtain ⟨r, hr, rfl, rfl, hb7⟩ := hrel
                          have hs8 := hb7.size
                          have hB72 : Below w2.heap.size w2 wr := hB7.trans (hb7.mono (by omega))
                          by_cases hlt7 : r < nn
                          · obtain rfl := hT2.at_ (by omega)
                            obtain rfl := hS2.at_ (by omega)
                            have hbT := hT2.lt (by omega)
                            have hbS := hS2.lt (by omega)
                            have hct : wr.cell? ⟨bT, r, none⟩ = some (.slice (tA r) (lA r) (tC r)) := by
                              have := hT2.cell r (by omega)
                              rw [Nat.zero_add] at this
                              exact (hB72.cell (p := ⟨bT, r, none⟩) hbT).trans this
                            have hcs : wr.cell? ⟨bS, r, none⟩ = some (.slice (sA r) (lR r) (sC r)) := by
                              have := hS2.cell r (by omega)
                              rw [Nat.zero_add] at this
                              exact (hB72.cell (p := ⟨bS, r, none⟩) hbS).trans this
                            have hok : wr.cell? ⟨w3.heap.size + 1, r, none⟩ = some (.bool (vb r)) := (hb7.cell (p := ⟨w3.heap.size + 1, r, none⟩) (show w3.heap.size + 1 < w7.heap.size by omega)).trans (HOK.out r hlt7)
                            have hl0 : (0 : Int) ≤ (r : Int) := by omega
                            have hl1 : (r : Int) < (nn : Int) := by omega
                            have hl2 : (r : Int) < (i : Int) := by omega
                            have hl3 : (r : Int) < (j : Int) := by omega
                            have hlA := HlA.out r (by omega)
                            have hlR := HU.out r (by omega)
                            have HRn : Hid (IsRuns wr.drew (sA r) (lR r) (sB r) 0 (R r)) := (HSI.out r (by omega)).below hB72.drew
                            have HTn : Hid (IsBytes wr.drew (tA r) (lA r) (tB r) 0 (B r)) := (HTI2.out r (by omega)).below hB72.drew
                            cases ht : vb r with
                            | false =>
                              rw [ht] at hok
                              have HS4 : Hid (wr.drew.cell? ⟨w3.heap.size + 1, r, none⟩ = some (.bool false)) := hok
                              clear hct hcs ht
                              go_wp2
                              go_quiet (fail)
                              go_wp2
                              go_roundg (nn - (r + 1))
                              case measure => omega
                              case rel => exact ⟨r + 1, by omega, rfl, by go_num, below_drewN6 hb7 _⟩
                            | true =>
                              rw [ht] at hok
                              by_cases hR0 : lR r = 0
                              · have hgt : wr.cell? ⟨w3.heap.size, r, none⟩ = some (.slice none 0 0) := (hb7.cell (p := ⟨w3.heap.size, r, none⟩) (show w3.heap.size < w7.heap.size by omega)).trans (HGN.out r hlt7 (fun h => by have := h.2; omega))
                                have HR0 : Hid (lR r = 0) := hR0
                                have HS5 : Hid (wr.drew.cell? ⟨w3.heap.size + 1, r, none⟩ = some (.bool true) ∧ wr.drew.cell? ⟨w3.heap.size, r, none⟩ = some (.slice none 0 0) ∧ wr.drew.cell? ⟨bT, r, none⟩ = some (.slice (tA r) (lA r) (tC r)) ∧ wr.drew.cell? ⟨bS, r, none⟩ = some (.slice (sA r) (lR r) (sC r))) := ⟨hok, hgt, hct, hcs⟩
                                clear hct hcs hR0 hgt hok ht
                                go_wp2
                                go_region_held3 (fun w' => w'.cell? ⟨w3.heap.size + 1, r, none⟩ = some (.bool true) ∧ w'.cell? ⟨w3.heap.size, r, none⟩ = some (.slice none 0 0) ∧ w'.cell? ⟨bT, r, none⟩ = some (.slice (tA r) (lA r) (tC r)) ∧ w'.cell? ⟨bS, r, none⟩ = some (.slice (sA r) (lR r) (sC r))) (first | exact HS5.out | with_reducible assumption)
                                  (first | (go_at_call 13; refine (matches_none' _ _ _ _ _ _ _ _ HR0.out).mono ?_; rintro e w9 ⟨rfl, hb9⟩; have hs9 : wr.drew.heap.size = wr.heap.size := rfl; have hS9 := four_below HS5.out hb9 (by omega) (by omega) (by omega) (by omega)))
                                go_wp2
                                go_roundg (nn - (r + 1))
                                case measure => omega
                                case rel => exact ⟨r + 1, by omega, rfl, by go_num, hb7.drew.trans (hb9.mono (by omega))⟩
                              · have hR1 : 0 < lR r := by omega
                                have hlv : lv vb lR r := ⟨ht, hR1⟩
                                have hVr : Valid (lA r) (lR r) (R r) := hVp.out r hlt7 hlv
                                have hgt : wr.cell? ⟨w3.heap.size, r, none⟩ = some (.slice (some ⟨(ln r).gr, (ln r).kr * 4, none⟩) (lR r) (lR r)) := (hb7.cell (p := ⟨w3.heap.size, r, none⟩) (show w3.heap.size < w7.heap.size by omega)).trans (HGV.out r hlt7 hlv)
                                have HLi : Hid (LineIs wr.drew (ln r).gr ((ln r).kr * 4) (lR r) (ln r).gt (ln r).A (R r) (B r)) := (HLs7.out.ex (S := fun _ => False) ((Ex.refl _ w7).of_below hb7.drew) (fun k hk => hk.elim)).plain hlt7 hlv hVr
                                have HVr : Hid _ := hVr
                                have HS5 : Hid (wr.drew.cell? ⟨w3.heap.size + 1, r, none⟩ = some (.bool true) ∧ wr.drew.cell? ⟨w3.heap.size, r, none⟩ = some (.slice (some ⟨(ln r).gr, (ln r).kr * 4, none⟩) (lR r) (lR r)) ∧ wr.drew.cell? ⟨bT, r, none⟩ = some (.slice (tA r) (lA r) (tC r)) ∧ wr.drew.cell? ⟨bS, r, none⟩ = some (.slice (sA r) (lR r) (sC r))) := ⟨hok, hgt, hct, hcs⟩
                                clear hct hcs hR0 hgt hok hVr hlv ht
                                go_wp2
                                go_region_held3 (fun w' => w'.cell? ⟨w3.heap.size + 1, r, none⟩ = some (.bool true) ∧ w'.cell? ⟨w3.heap.size, r, none⟩ = some (.slice (some ⟨(ln r).gr, (ln r).kr * 4, none⟩) (lR r) (lR r)) ∧ w'.cell? ⟨bT, r, none⟩ = some (.slice (tA r) (lA r) (tC r)) ∧ w'.cell? ⟨bS, r, none⟩ = some (.slice (sA r) (lR r) (sC r))) (first | exact HS5.out | with_reducible assumption)
                                  (first | (go_at_call 13; refine (matches_plain (ln r).gr ((ln r).kr * 4) (lR r) (ln r).gt (lA r) _ _ (tB r) 0 (sB r) 0 (ln r).A _ _ (R r) (B r) _ hR1 hlR hlA HTn.out HRn.out HVr.out HLi.out).mono ?_; rintro e w9 ⟨rfl, hb9⟩; have hs9 : wr.drew.heap.size = wr.heap.size := rfl; have hS9 := four_below HS5.out hb9 (by omega) (by omega) (by omega) (by omega)))
                                go_wp2
                                go_roundg (nn - (r + 1))
                                case measure => omega
                                case rel => exact ⟨r + 1, by omega, rfl, by go_num, hb7.drew.trans (hb9.mono (by omega))⟩
                          · obtain rfl : nn = r := by omega
                            obtain ⟨w8, hw8⟩ : ∃ w8, w8 = wr := ⟨_, rfl⟩
                            subst hw8
                            have hN8 : w3.heap.size + 3 ≤ w8.heap.size := by omega
                            have HSt8 : Hid _ := HSt7.out.below hb7
                            have HOK8 : Hid (∀ q, q < nn → w8.cell? ⟨w3.heap.size + 1, q, none⟩ = some (.bool (vb q))) := fun q hq => (hb7.cell (p := ⟨w3.heap.size + 1, q, none⟩) (show w3.heap.size + 1 < w7.heap.size by omega)).trans (HOK.out q hq)
                            have HGN8 : Hid (∀ q, q < nn → ¬ lv vb lR q → w8.cell? ⟨w3.heap.size, q, none⟩ = some (.slice none 0 0)) := fun q hq h => (hb7.cell (p := ⟨w3.heap.size, q, none⟩) (show w3.heap.size < w7.heap.size by omega)).trans (HGN.out q hq h)
                            have HGV8 : Hid (∀ q, q < nn → lv vb lR q → w8.cell? ⟨w3.heap.size, q, none⟩ = some (.slice (some ⟨(ln q).gr, (ln q).kr * 4, none⟩) (lR q) (lR q))) := fun q hq h => (hb7.cell (p := ⟨w3.heap.size, q, none⟩) (show w3.heap.size < w7.heap.size by omega)).trans (HGV.out q hq h)
                            have hB8 : Below w2.heap.size w2 w8 := hB72
                            clear HOK HGN HGV HLs7 HSt7 hb7 hB7 hB72
                            go_wp2
                            go_loopg [18] nn (fun k q wr => ∃ r : Nat, r ≤ nn ∧ k = nn - r ∧ q = .int .i64 r ∧ St wr nn r 0 0 (lv vb lR) lR R B ln ∧ Below (w3.heap.size + 3) w8 wr)
                            case atStart => exact ⟨0, by omega, by omega, rfl, HSt8.out, Below.refl _ _⟩
                            case round =>
                              clear HSt8
                              obtain ⟨r, hr, rfl, rfl, hSt, hb8⟩ := hrel
                              by_cases hlt8 : r < nn
                              · have hl0 : (0 : Int) ≤ (r : Int) := by omega
                                have hl1 : (r : Int) < (nn : Int) := by omega
                                by_cases hlv : lv vb lR r
                                · have hgt : wr.cell? ⟨w3.heap.size, r, none⟩ = some (.slice (some ⟨(ln r).gr, (ln r).kr * 4, none⟩) (lR r) (lR r)) := (hb8.cell (p := ⟨w3.heap.size, r, none⟩) (show w3.heap.size < w3.heap.size + 3 by omega)).trans (HGV8.out r hlt8 hlv)
                                  have HVr : Hid (Valid (lA r) (lR r) (R r)) := hVp.out r hlt8 hlv
                                  have hlR := HU.out r (by omega)
                                  have hgeR := (HAp.out.ge r hlt8 hlv).2
                                  have hgeT := (HAp.out.ge r hlt8 hlv).1
                                  have Hlv : Hid (lv vb lR r) := hlv
                                  have HSt : Hid _ := hSt
                                  clear hSt hlv
                                  go_wp2
                                  go_loopg [20] (lR r) (fun k q wr => ∃ k' : Nat, k' ≤ lR r ∧ k = lR r - k' ∧ q = .int .i64 k' ∧ St wr nn r k' (before (R r) k').toNat (lv vb lR) lR R B ln ∧ Below (w3.heap.size + 3) w8 wr)
                                  case atStart => exact ⟨0, by omega, by omega, rfl, HSt.out, hb8⟩
                                  case round =>
                                    clear HSt hb8 hgt
                                    obtain ⟨k', hk', rfl, rfl, hSt, hb8⟩ := hrel
                                    by_cases hltk : k' < lR r
                                    · have hm0 : (0 : Int) ≤ (k' : Int) := by omega
                                      have hm1 : (k' : Int) < (lR r : Int) := by omega
                                      obtain ⟨Lg, hLg⟩ : ∃ g : LRec, g = ln r := ⟨_, rfl⟩
                                      have hr4 := hSt.run r hlt8 Hlv.out k' hltk
                                      rw [if_neg (by omega), if_neg (by omega), show ((ln r).kr + k') * 4 = (ln r).kr * 4 + k' * 4 by omega] at hr4
                                      have hr0 := hr4.1
                                      clear hLg
                                      obtain ⟨le, HLE⟩ : ∃ le : Nat, Hid (le = rlen (R r) k') := ⟨_, rfl⟩
                                      rw [← HLE.out] at hr0
                                      have hle : le ≤ 1048576 := by
                                        have h1 := (HVr.out k' hltk).2
                                        have h2 := before_nn HVr.out (i := k') (by omega)
                                        have h3 := HlA.out r (by omega)
                                        rw [HLE.out]; unfold rlen; omega
                                      obtain ⟨bk, HBK⟩ : ∃ bk : Nat, Hid (bk = (before (R r) k').toNat) := ⟨_, rfl⟩
                                      have HSt : Hid (St wr nn r k' bk (lv vb lR) lR R B ln) := by rw [HBK.out]; exact hSt
                                      clear hSt hr4
                                      go_wp2
                                      go_loopg [22] le (fun k q wr => ∃ x : Nat, x ≤ le ∧ k = le - x ∧ q = .int .i64 x ∧ St wr nn r k' (bk + x) (lv vb lR) lR R B ln ∧ Below (w3.heap.size + 3) w8 wr)
                                      case atStart => exact ⟨0, by omega, by omega, rfl, HSt.out, hb8⟩
                                      case round =>
                                        clear HSt hb8 hr0
                                        obtain ⟨x, hx, rfl, rfl, hSt, hb8⟩ := hrel
                                        by_cases hltx : x < le
                                        · have hm2 : (0 : Int) ≤ (x : Int) := by omega
                                          have hm3 : (x : Int) < (le : Int) := by omega
                                          have hadr : (ln r).kt + (bk + x) = (ln r).A k' + x := by
                                            have := HAp.out.adr r hlt8 Hlv.out k' hltk (by have := HLE.out; omega)
                                            rw [this, HBK.out]; omega
                                          have hpl : bk + x < te (R r) (lR r) := by rw [HBK.out]; exact place_lt HVr.out hltk (by have := HLE.out; omega)
                                          have htx := hSt.txt r hlt8 Hlv.out (bk + x) hpl
                                          rw [if_neg (by omega), hadr] at htx
                                          obtain ⟨KT, hKT⟩ := hSt.blkT r hlt8 Hlv.out
                                          have hft : wr.frozen? ⟨(ln r).gt, (ln r).A k' + x, none⟩ = false := hKT.frozen _
                                          have hSn := hSt.byte HAp.out hlt8 Hlv.out hpl
                                          rw [hadr] at hSn
                                          have HSn : Hid _ := hSn
                                          have HBn : Hid _ := hb8.setCell (p := ⟨(ln r).gt, (ln r).A k' + x, none⟩) (by simpa using hgeT) (.int .u8 (iv8 (B r (bk + x))))
                                          clear hSn hSt hadr hKT hpl
                                          go_wp2
                                          go_roundg (le - (x + 1))
                                          case measure => omega
                                          case rel => exact ⟨x + 1, by omega, rfl, by go_num, HSn.out, HBn.out⟩
                                        · obtain rfl : le = x := by omega
                                          have hr4 := hSt.run r hlt8 Hlv.out k' hltk
                                          rw [if_neg (by omega), if_neg (by omega), show ((ln r).kr + k') * 4 = (ln r).kr * 4 + k' * 4 by omega] at hr4
                                          obtain ⟨_, q1, q2, q3⟩ := hr4
                                          obtain ⟨KR, hKR⟩ := hSt.blkR r hlt8 Hlv.out
                                          have f1 := hKR.frozen ((ln r).kr * 4 + k' * 4 + 1)
                                          have q3' : (wr.setCell ⟨(ln r).gr, (ln r).kr * 4 + k' * 4 + 1, none⟩ (.int .u32 (iv32 (R r k').2.1))).cell? ⟨(ln r).gr, (ln r).kr * 4 + k' * 4 + 3, none⟩ = some (.int .u8 (R r k').2.2.2) := by rw [cell_set_ne (by omega)]; exact q3
                                          have f3 : (wr.setCell ⟨(ln r).gr, (ln r).kr * 4 + k' * 4 + 1, none⟩ (.int .u32 (iv32 (R r k').2.1))).frozen? ⟨(ln r).gr, (ln r).kr * 4 + k' * 4 + 3, none⟩ = false := (hKR.setCell _ _).frozen _
                                          have hSn := hSt.style HAp.out hlt8 Hlv.out hltk
                                          rw [show ((ln r).kr + k') * 4 = (ln r).kr * 4 + k' * 4 by omega] at hSn
                                          have hbe : bk + le = (before (R r) (k' + 1)).toNat := by rw [HBK.out, HLE.out]; exact place_end HVr.out hltk
                                          rw [hbe] at hSn
                                          have HSn : Hid _ := hSn
                                          have HBn : Hid _ := (hb8.setCell (p := ⟨(ln r).gr, (ln r).kr * 4 + k' * 4 + 1, none⟩) (by simpa using hgeR) (.int .u32 (iv32 (R r k').2.1))).setCell (p := ⟨(ln r).gr, (ln r).kr * 4 + k' * 4 + 3, none⟩) (by simpa using hgeR) (.int .u8 (iv8 (R r k').2.2.2))
                                          clear hSn hSt hbe hKR q2
                                          go_wp2
                                          go_roundg (lR r - (k' + 1))
                                          case measure => omega
                                          case rel => exact ⟨k' + 1, by omega, rfl, by go_num, HSn.out, HBn.out⟩
                                    · obtain rfl : lR r = k' := by omega
                                      have HSn : Hid _ := hSt.next (fun _ => ⟨rfl, rfl⟩)
                                      clear hSt
                                      go_wp2
                                      go_roundg (nn - (r + 1))
                                      case measure => omega
                                      case rel => exact ⟨r + 1, by omega, rfl, by go_num, HSn.out, hb8⟩
                                · have hgt : wr.cell? ⟨w3.heap.size, r, none⟩ = some (.slice none 0 0) := (hb8.cell (p := ⟨w3.heap.size, r, none⟩) (show w3.heap.size < w3.heap.size + 3 by omega)).trans (HGN8.out r hlt8 hlv)
                                  have HSn : Hid _ := hSt.next (fun h => absurd h hlv)
                                  clear hSt hlv
                                  go_wp2
                                  go_loopg [20] 0 (fun k q wr2 => q = .int .i64 0 ∧ wr = wr2)
                                  case atStart => exact ⟨rfl, rfl⟩
                                  case round =>
                                    obtain ⟨rfl, rfl⟩ := hrel
                                    go_wp2
                                    go_roundg (nn - (r + 1))
                                    case measure => omega
                                    case rel => exact ⟨r + 1, by omega, rfl, by go_num, HSn.out, hb8⟩
                              · obtain rfl : nn = r := by omega
                                obtain ⟨w9, hw9⟩ : ∃ w9, w9 = wr := ⟨_, rfl⟩
                                subst hw9
                                have hs9 := hb8.size
                                have hN9 : w3.heap.size + 3 ≤ w9.heap.size := by omega
                                have HSt9 : Hid _ := hSt
                                have hB9 : Below w2.heap.size w2 w9 := hB8.trans (hb8.mono (by omega))
                                have HOK9 : Hid (∀ q, q < nn → w9.cell? ⟨w3.heap.size + 1, q, none⟩ = some (.bool (vb q))) := fun q hq => (hb8.cell (p := ⟨w3.heap.size + 1, q, none⟩) (show w3.heap.size + 1 < w3.heap.size + 3 by omega)).trans (HOK8.out q hq)
                                have HGN9 : Hid (∀ q, q < nn → ¬ lv vb lR q → w9.cell? ⟨w3.heap.size, q, none⟩ = some (.slice none 0 0)) := fun q hq h => (hb8.cell (p := ⟨w3.heap.size, q, none⟩) (show w3.heap.size < w3.heap.size + 3 by omega)).trans (HGN8.out q hq h)
                                have HGV9 : Hid (∀ q, q < nn → lv vb lR q → w9.cell? ⟨w3.heap.size, q, none⟩ = some (.slice (some ⟨(ln q).gr, (ln q).kr * 4, none⟩) (lR q) (lR q))) := fun q hq h => (hb8.cell (p := ⟨w3.heap.size, q, none⟩) (show w3.heap.size < w3.heap.size + 3 by omega)).trans (HGV8.out q hq h)
                                clear HOK8 HGN8 HGV8 hb8 hSt
                                go_wp2
                                go_loopg [23] nn (fun k q wr => ∃ r : Nat, r ≤ nn ∧ k = nn - r ∧ q = .int .i64 r ∧ Below w9.heap.size w9 wr)
                                case atStart => exact ⟨0, by omega, by omega, rfl, Below.refl _ _⟩
                                case round =>
                                  obtain ⟨r, hr, rfl, rfl, hbz⟩ := hrel
                                  have hs8 := hbz.size
                                  have hBz2 : Below w2.heap.size w2 wr := hB9.trans (hbz.mono (by omega))
                                  by_cases hltz : r < nn
                                  · obtain rfl := hT2.at_ (by omega)
                                    obtain rfl := hS2.at_ (by omega)
                                    have hbT := hT2.lt (by omega)
                                    have hbS := hS2.lt (by omega)
                                    have hct : wr.cell? ⟨bT, r, none⟩ = some (.slice (tA r) (lA r) (tC r)) := by
                                      have := hT2.cell r (by omega)
                                      rw [Nat.zero_add] at this
                                      exact (hBz2.cell (p := ⟨bT, r, none⟩) hbT).trans this
                                    have hcs : wr.cell? ⟨bS, r, none⟩ = some (.slice (sA r) (lR r) (sC r)) := by
                                      have := hS2.cell r (by omega)
                                      rw [Nat.zero_add] at this
                                      exact (hBz2.cell (p := ⟨bS, r, none⟩) hbS).trans this
                                    have hok : wr.cell? ⟨w3.heap.size + 1, r, none⟩ = some (.bool (vb r)) := (hbz.cell (p := ⟨w3.heap.size + 1, r, none⟩) (show w3.heap.size + 1 < w9.heap.size by omega)).trans (HOK9.out r hltz)
                                    have hl0 : (0 : Int) ≤ (r : Int) := by omega
                                    have hl1 : (r : Int) < (nn : Int) := by omega
                                    have hl2 : (r : Int) < (i : Int) := by omega
                                    have hl3 : (r : Int) < (j : Int) := by omega
                                    have hlA := HlA.out r (by omega)
                                    have hlR := HU.out r (by omega)
                                    have HRn : Hid (IsRuns wr.drew (sA r) (lR r) (sB r) 0 (R r)) := (HSI.out r (by omega)).below hBz2.drew
                                    have HTn : Hid (IsBytes wr.drew (tA r) (lA r) (tB r) 0 (B r)) := (HTI2.out r (by omega)).below hBz2.drew
                                    cases ht : vb r with
                                    | false =>
                                      rw [ht] at hok
                                      have HS4 : Hid (wr.drew.cell? ⟨w3.heap.size + 1, r, none⟩ = some (.bool false)) := hok
                                      clear hct hcs ht
                                      go_wp2
                                      go_quiet (fail)
                                      go_wp2
                                      go_roundg (nn - (r + 1))
                                      case measure => omega
                                      case rel => exact ⟨r + 1, by omega, rfl, by go_num, below_drewN6 hbz _⟩
                                    | true =>
                                      rw [ht] at hok
                                      by_cases hR0 : lR r = 0
                                      · have hgt : wr.cell? ⟨w3.heap.size, r, none⟩ = some (.slice none 0 0) := (hbz.cell (p := ⟨w3.heap.size, r, none⟩) (show w3.heap.size < w9.heap.size by omega)).trans (HGN9.out r hltz (fun h => by have := h.2; omega))
                                        have HR0 : Hid (lR r = 0) := hR0
                                        have HS5 : Hid (wr.drew.cell? ⟨w3.heap.size + 1, r, none⟩ = some (.bool true) ∧ wr.drew.cell? ⟨w3.heap.size, r, none⟩ = some (.slice none 0 0) ∧ wr.drew.cell? ⟨bT, r, none⟩ = some (.slice (tA r) (lA r) (tC r)) ∧ wr.drew.cell? ⟨bS, r, none⟩ = some (.slice (sA r) (lR r) (sC r))) := ⟨hok, hgt, hct, hcs⟩
                                        clear hct hcs hR0 hgt hok ht
                                        go_wp2
                                        go_region_held3 (fun w' => w'.cell? ⟨w3.heap.size + 1, r, none⟩ = some (.bool true) ∧ w'.cell? ⟨w3.heap.size, r, none⟩ = some (.slice none 0 0) ∧ w'.cell? ⟨bT, r, none⟩ = some (.slice (tA r) (lA r) (tC r)) ∧ w'.cell? ⟨bS, r, none⟩ = some (.slice (sA r) (lR r) (sC r))) (first | exact HS5.out | with_reducible assumption)
                                          (first | (go_at_call 13; refine (matches_none' _ _ _ _ _ _ _ _ HR0.out).mono ?_; rintro e wz ⟨rfl, hb9⟩; have hs9 : wr.drew.heap.size = wr.heap.size := rfl; have hS9 := four_below HS5.out hb9 (by omega) (by omega) (by omega) (by omega)))
                                        go_wp2
                                        go_roundg (nn - (r + 1))
                                        case measure => omega
                                        case rel => exact ⟨r + 1, by omega, rfl, by go_num, hbz.drew.trans (hb9.mono (by omega))⟩
                                      · have hR1 : 0 < lR r := by omega
                                        have hlv : lv vb lR r := ⟨ht, hR1⟩
                                        have hVr : Valid (lA r) (lR r) (R r) := hVp.out r hltz hlv
                                        have hgt : wr.cell? ⟨w3.heap.size, r, none⟩ = some (.slice (some ⟨(ln r).gr, (ln r).kr * 4, none⟩) (lR r) (lR r)) := (hbz.cell (p := ⟨w3.heap.size, r, none⟩) (show w3.heap.size < w9.heap.size by omega)).trans (HGV9.out r hltz hlv)
                                        have HLi : Hid (LineIs wr.drew (ln r).gr ((ln r).kr * 4) (lR r) (ln r).gt (ln r).A (ivR (R r)) (fun x => iv8 (B r x))) := (HSt9.out.below hbz.drew).done HAp.out hltz hlv hVr
                                        have HVr : Hid _ := hVr
                                        have HS5 : Hid (wr.drew.cell? ⟨w3.heap.size + 1, r, none⟩ = some (.bool true) ∧ wr.drew.cell? ⟨w3.heap.size, r, none⟩ = some (.slice (some ⟨(ln r).gr, (ln r).kr * 4, none⟩) (lR r) (lR r)) ∧ wr.drew.cell? ⟨bT, r, none⟩ = some (.slice (tA r) (lA r) (tC r)) ∧ wr.drew.cell? ⟨bS, r, none⟩ = some (.slice (sA r) (lR r) (sC r))) := ⟨hok, hgt, hct, hcs⟩
                                        clear hct hcs hR0 hgt hok hVr hlv ht
                                        go_wp2
                                        go_region_held3 (fun w' => w'.cell? ⟨w3.heap.size + 1, r, none⟩ = some (.bool true) ∧ w'.cell? ⟨w3.heap.size, r, none⟩ = some (.slice (some ⟨(ln r).gr, (ln r).kr * 4, none⟩) (lR r) (lR r)) ∧ w'.cell? ⟨bT, r, none⟩ = some (.slice (tA r) (lA r) (tC r)) ∧ w'.cell? ⟨bS, r, none⟩ = some (.slice (sA r) (lR r) (sC r))) (first | exact HS5.out | with_reducible assumption)
                                          (first | (go_at_call 13; refine (matches_inv (ln r).gr ((ln r).kr * 4) (lR r) (ln r).gt (lA r) _ _ (tB r) 0 (sB r) 0 (ln r).A _ _ (R r) (B r) _ hR1 hlR hlA HTn.out HRn.out HVr.out HLi.out).mono ?_; rintro e wz ⟨rfl, hb9⟩; have hs9 : wr.drew.heap.size = wr.heap.size := rfl; have hS9 := four_below HS5.out hb9 (by omega) (by omega) (by omega) (by omega)))
                                        go_wp2
                                        go_roundg (nn - (r + 1))
                                        case measure => omega
                                        case rel => exact ⟨r + 1, by omega, rfl, by go_num, hbz.drew.trans (hb9.mono (by omega))⟩
                                  · go_wp2
                                    go_ret
                                    exact ⟨rfl, hW2.trans (hBz2.mono hW2.size)⟩
theorem law4_any (a0 a1 : Option Addr) (n0 c0 n1 c1 b0 o0 b1 o1 : Nat) (aA aR : Nat → Option Addr) (lA cA bA oA lR cR bR oR : Nat → Nat) (B : Nat → Nat → Int) (R : Nat → Nat → RunZ) (w : World) (h0 : IsRow2 w a0 n0 b0 o0 aA lA cA) (h1 : IsRow2 w a1 n1 b1 o1 aR lR cR)
    (hI0 : ∀ i, i < n0 → IsBytes w (aA i) (lA i) (bA i) (oA i) (B i)) (hI1 : ∀ i, i < n1 → IsRuns w (aR i) (lR i) (bR i) (oR i) (R i)) (hN0 : ∀ i, i < n0 → aA i = none → lA i = 0 ∧ cA i = 0) (hN1 : ∀ i, i < n1 → aR i = none → lR i = 0 ∧ cR i = 0)
    (hz0 : a0 = none → n0 = 0 ∧ c0 = 0) (hz1 : a1 = none → n1 = 0 ∧ c1 = 0) :
    Calls Try.prog 4 #[.slice a0 n0 c0, .slice a1 n1 c1] w fun e w' => e = .returned (.bool true) ∧ Below w.heap.size w w' := by
  by_cases h : 1048576 < n0 + su lA n0 + n1 + su lR n1 ∨ 1048576 < 24 * n0 + 24 * n1
  · refine (law4_out a0 a1 n0 c0 n1 c1 b0 o0 b1 o1 aA aR lA cA lR cR w h0 h1 h).mono ?_
    rintro e w' ⟨rfl, rfl⟩
    exact ⟨rfl, Below.refl _ _⟩
  · exact law4_main a0 a1 n0 c0 n1 c1 b0 o0 b1 o1 aA aR lA cA bA oA lR cR bR oR B R w h0 h1 hI0 hI1 hN0 hN1 hz0 hz1 (by omega) (by omega)

end Go.Proofs.Qxb6604013a
