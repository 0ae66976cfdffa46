import Derived.Test.Qxb6604013aRoom
namespace Go.Proofs.Qxb6604013a
open Go.RowKit
set_option linter.unusedVariables false
attribute [local go_sem ↓] Go.wp_at_zero Go.wp_at_succ

set_option maxHeartbeats 1000000 in
theorem law6_main (r fg bg a m : Int) (a0 a1 : Option Addr) (l0 c0 l1 c1 : Nat) (Z0 Z1 : Nat → Int × Int × Int × Int × Int) (w : World) (hlen : l0 + l1 ≤ 52428) (hZ0 : IsCellsO w a0 l0 Z0) (hZ1 : IsCellsO w a1 l1 Z1) :
    Calls Try.prog 6 #[.slice a0 l0 c0, .slice a1 l1 c1, .agg #[.int .i32 r, .int .u32 fg, .int .u32 bg, .int .u8 a, .int .u32 m]] w fun e w' => e = .returned (.bool true) ∧ Below w.heap.size w w' := by
  have hg0 : ¬ (52428 < (l0 : Int)) := by omega
  have hg1 : ¬ (52428 < (l1 : Int)) := by omega
  have hgd : decide (52428 < (l0 : Int)) = false := decide_eq_false hg0
  go_enter Try.func6, Try.ntmps6
  go_wp2_with (first | (go_at_call 20; refine (bytes20_yes _ _ _ _ _ _ _ _ _ _ _ _ (by omega)).mono ?_; rintro e w1 ⟨rfl, hb1⟩) | (at_make; refine wpList_make_blk (by rfl) (.tmp 36) (.tmp 36) 62 (by rfl) 64 _ 5 20 Try.underlying62 info64 (by rfl) (l0 + l1) (by simp [Act.eval]) (by simp [Act.eval]) (by omega) (by omega) ?_; intro w2 hT hb2 hs2))
  have hN : w.heap.size < w1.heap.size := by have := hb1.size; simp at this; omega
  have hbox : Blk w2 w.heap.size 60 (cv5 r fg bg a m) := ((Blk.new w 60 (cv5 r fg bg a m)).below hb1 (by simp)).below hb2 hN
  have hB : Below w.heap.size w w2 := ((((Below.refl _ w).alloc (Nat.le_refl _) _).trans (hb1.mono (by simp))).trans (hb2.mono (by omega)))
  have hL : (Rep (l0 + l1) (Value.agg #[.int .i32 0, .int .u32 0, .int .u32 0, .int .u8 0, .int .u32 0]).cells.toList).length = (l0 + l1) * 5 := by rw [Rep_length]; rfl
  clear hb1 hb2
  go_loopg [8] l0 (fun k i wr => ∃ (j : Nat) (L : List Value), j ≤ l0 ∧ k = l0 - j ∧ i = .int .i64 j ∧ Blk wr w1.heap.size 64 L ∧ L.length = (l0 + l1) * 5 ∧ Blk wr w.heap.size 60 (cv5 r fg bg a m) ∧ Below w.heap.size w wr)
  case atStart => exact ⟨0, _, by omega, by omega, rfl, hT, hL, hbox, hB⟩
  case round =>
    clear hT hL hbox hB
    obtain ⟨j, L, hj, rfl, rfl, hT, hL, hbox, hB⟩ := hrel
    by_cases hlt : j < l0
    · obtain ⟨b, off, rfl, hrg⟩ := hZ0 j hlt
      have hrg' := range_below hrg hB (range_lt hrg)
      clear hrg
      have hl0 : (0 : Int) ≤ (j : Int) := by omega
      have hl1 : (j : Int) < (l0 : Int) := by omega
      have hl2 : (j : Int) < (l0 : Int) + (l1 : Int) := by omega
      go_wp2_with (first | (refine wpList_load_blk (by rfl) 60 (.tmp 48) (by rfl) b (off + j * 5) (by rfl) _ _ hrg' Try.underlying60 rfl size60 ?_) | (go_at_call 18; refine (zCell_any _ _ _ _ _ _).mono ?_; rintro e w3 ⟨rfl, hb3⟩) | (refine wpList_store_blk (by rfl) 64 (.tmp 51) (.tmp 50) (by rfl) w1.heap.size (j * 5) (by rfl) (cv5 (Z0 j).1 (Z0 j).2.1 (Z0 j).2.2.1 (Z0 j).2.2.2.1 (Z0 j).2.2.2.2) (by rfl) 64 L (hT.below hb3 hT.lt) (by rw [cv5_length]; omega) size64 (fun v hv => cv5_one hv) ?_; intro w4 hb4 he4))
      go_roundg (l0 - (j + 1))
      case measure => omega
      case rel =>
        have hN' := hbox.lt
        exact ⟨j + 1, _, by omega, rfl, by go_num, hb4, by rw [length_splice _ _ _ (by rw [cv5_length]; omega)]; exact hL, (hbox.below hb3 hbox.lt).ex he4 (by omega), (hB.trans (hb3.mono (by omega))).trans (he4.below (by have := hb3.size; omega) (by omega))⟩
    · go_wp2
      have hTl : Tail L l0 Z1 0 := fun q hq => by omega
      go_loopg [9] l1 (fun k i wr => ∃ (j : Nat) (L : List Value), j ≤ l1 ∧ k = l1 - j ∧ i = .int .i64 j ∧ Blk wr w1.heap.size 64 L ∧ L.length = (l0 + l1) * 5 ∧ Tail L l0 Z1 j ∧ Blk wr w.heap.size 60 (cv5 r fg bg a m) ∧ Below w.heap.size w wr)
      case atStart => exact ⟨0, _, by omega, by omega, rfl, hT, hL, hTl, hbox, hB⟩
      case round =>
        clear hT hL hbox hB hTl
        obtain ⟨q, M, hq, rfl, rfl, hT, hL, hTl, hbox, hB⟩ := hrel
        by_cases hql : q < l1
        · obtain ⟨b, off, rfl, hrg⟩ := hZ1 q hql
          have hrg' := range_below hrg hB (range_lt hrg)
          clear hrg
          have hl0 : (0 : Int) ≤ (q : Int) := by omega
          have hl1 : (q : Int) < (l1 : Int) := by omega
          have hl2 : (0 : Int) ≤ (l0 : Int) + (q : Int) := by omega
          have hl3 : (l0 : Int) + (q : Int) < (l0 : Int) + (l1 : Int) := by omega
          have hl4 : ((l0 : Int) + (q : Int)).toNat = l0 + q := by omega
          go_wp2_with (first | (refine wpList_load_blk (by rfl) 60 (.tmp 65) (by rfl) b (off + q * 5) (by rfl) _ _ hrg' Try.underlying60 rfl size60 ?_) | (go_at_call 18; refine (zCell_any _ _ _ _ _ _).mono ?_; rintro e w3 ⟨rfl, hb3⟩) | (refine wpList_store_blk (by rfl) 64 (.tmp 68) (.tmp 67) (by rfl) w1.heap.size ((l0 + q) * 5) (by rfl) (cv5 (Z1 q).1 (Z1 q).2.1 (Z1 q).2.2.1 (Z1 q).2.2.2.1 (Z1 q).2.2.2.2) (by rfl) 64 M (hT.below hb3 hT.lt) (by rw [cv5_length]; omega) size64 (fun v hv => cv5_one hv) ?_; intro w4 hb4 he4))
          go_roundg (l1 - (q + 1))
          case measure => omega
          case rel =>
            have hN' := hbox.lt
            exact ⟨q + 1, _, by omega, rfl, by go_num, hb4, by rw [length_splice _ _ _ (by rw [cv5_length]; omega)]; exact hL, hTl.step (by omega), (hbox.below hb3 hbox.lt).ex he4 (by omega), (hB.trans (hb3.mono (by omega))).trans (he4.below (by have := hb3.size; omega) (by omega))⟩
        · obtain rfl : q = l1 := by omega
          go_wp2_with (first | (refine wpList_load_blk (by rfl) 60 (.tmp 5) (by rfl) w.heap.size 0 (by rfl) (cv5 r fg bg a m) _ (hbox.range 0 _ (by simp)) Try.underlying60 rfl size60 ?_) | (go_at_call 18; refine (zCell_any _ _ _ _ _ _).mono ?_; rintro e w3 ⟨rfl, hb3⟩))
          have hTL : w1.heap.size < w3.heap.size := by have := hT.lt; have := hb3.size; omega
          have hV : Blk (w3.alloc (.cells #[.int .i32 r, .int .u32 fg, .int .u32 bg, .int .u8 a, .int .u32 m] 64)) w3.heap.size 64 (cv5 r fg bg a m) := Blk.new w3 64 (cv5 r fg bg a m)
          have hT3 : Blk (w3.alloc (.cells #[.int .i32 r, .int .u32 fg, .int .u32 bg, .int .u8 a, .int .u32 m] 64)) w1.heap.size 64 M := (hT.below hb3 hT.lt).alloc _
          have hB3 : Below w.heap.size w (w3.alloc (.cells #[.int .i32 r, .int .u32 fg, .int .u32 bg, .int .u8 a, .int .u32 m] 64)) := ((hB.trans (hb3.mono (by have := hbox.lt; omega))).alloc (by have := hbox.lt; omega) _)
          have hN3 : w.heap.size < (w3.alloc (.cells #[.int .i32 r, .int .u32 fg, .int .u32 bg, .int .u8 a, .int .u32 m] 64)).heap.size := by simp; omega
          clear hb3 hT hbox hB
          generalize w3.alloc (.cells #[.int .i32 r, .int .u32 fg, .int .u32 bg, .int .u8 a, .int .u32 m] 64) = W3 at hV hT3 hB3 hN3 ⊢
          have hS0 : at5 W3.drew w3.heap.size 0 r fg bg a m := at5_of (hV.drew.range 0 _ (by simp))
          have HS0 : Hid _ := hS0
          have hsl0 : (0 : Int) ≤ (l0 : Int) := by omega
          have hsl1 : (l0 : Int) ≤ (l0 : Int) + (q : Int) := by omega
          clear hS0
          go_region_held3 (fun w' => at5 w' w3.heap.size 0 r fg bg a m) (first | exact HS0.out | with_reducible assumption)
            (first | (go_at_call 19; refine (zfill_any _ _ _ _ _ w1.heap.size l0 (l0 + q) M _ (by omega) hlen hL hT3.drew).mono ?_; rintro e w5 ⟨rfl, hb5, he5⟩; have hV5 : at5 w5 w3.heap.size 0 r fg bg a m := at5_of ((hV.drew.ex he5 (by omega)).range 0 _ (by simp))))
          have hV5b : Blk w5 w3.heap.size 64 (cv5 r fg bg a m) := hV.drew.ex he5 (by omega)
          have hB5 : Below w.heap.size w w5 := hB3.drew.trans (he5.below (by show _ ≤ W3.heap.size; omega) (by omega))
          have hT5 := hTl.fill r fg bg a m
          clear he5 hV5 hV hT3 hB3 hN3 HS0 hTl
          rename_i hHeld
          clear hHeld
          go_wp2
          go_loopg [11] l0 (fun k i wr => ∃ (x : Nat), x ≤ l0 ∧ k = l0 - x ∧ i = .int .i64 x ∧ Blk wr w1.heap.size 64 (Rep l0 (cv5 r fg bg a m) ++ M.drop (l0 * 5)) ∧ Blk wr w3.heap.size 64 (cv5 r fg bg a m) ∧ Below w.heap.size w wr)
          case atStart => exact ⟨0, by omega, by omega, rfl, hb5, hV5b, hB5⟩
          case round =>
            clear hb5 hV5b hB5
            obtain ⟨x, hx, rfl, rfl, hT, hV, hB⟩ := hrel
            by_cases hxl : x < l0
            · have hl0 : (0 : Int) ≤ (x : Int) := by omega
              have hl1 : (x : Int) < (l0 : Int) := by omega
              have hl2 : (x : Int) < (l0 : Int) + (q : Int) := by omega
              have hS : at5 wr.drew w1.heap.size (x * 5) r fg bg a m ∧ at5 wr.drew w3.heap.size 0 r fg bg a m := ⟨at5_of (Rep_range hT.drew x hxl), at5_of (hV.drew.range 0 _ (by simp))⟩
              have hS' : Hid _ := hS
              clear hS
              go_wp2
              go_region_held3 (fun w' => at5 w' w1.heap.size (x * 5) r fg bg a m ∧ at5 w' w3.heap.size 0 r fg bg a m) (exact hS'.out) (fail)
              go_wp2
              go_roundg (l0 - (x + 1))
              case measure => omega
              case rel => exact ⟨x + 1, by omega, rfl, by go_num, hT.drew, hV.drew, hB.drew⟩
            · go_wp2
              go_loopg [12] q (fun k i wr => ∃ (x : Nat), x ≤ q ∧ k = q - x ∧ i = .int .i64 x ∧ Blk wr w1.heap.size 64 (Rep l0 (cv5 r fg bg a m) ++ M.drop (l0 * 5)) ∧ w.heap.size ≤ wr.heap.size ∧ Below w.heap.size w wr)
              case atStart => exact ⟨0, by omega, by omega, rfl, hT, by have := hT.lt; omega, hB⟩
              case round =>
                clear hT hB hV
                obtain ⟨y, hy, rfl, rfl, hT, hNr, hB⟩ := hrel
                by_cases hyl : y < q
                · obtain ⟨b, off, rfl, hrg⟩ := hZ1 y hyl
                  have hrg' := range_below hrg hB (range_lt hrg)
                  have hbN := range_lt hrg'
                  clear hrg
                  have hl0 : (0 : Int) ≤ (y : Int) := by omega
                  have hl1 : (y : Int) < (q : Int) := by omega
                  have hl2 : (0 : Int) ≤ (l0 : Int) + (y : Int) := by omega
                  have hl3 : (l0 : Int) + (y : Int) < (l0 : Int) + (q : Int) := by omega
                  have hl4 : ((l0 : Int) + (y : Int)).toNat = l0 + y := by omega
                  have hwr : IntKind.i64.wrap ((l0 : Int) + (y : Int)) = (l0 : Int) + (y : Int) := by rw [IntKind.wrap_i64]; omega
                  have hS : at5 wr.drew w1.heap.size ((l0 + y) * 5) (Z1 y).1 (Z1 y).2.1 (Z1 y).2.2.1 (Z1 y).2.2.2.1 (Z1 y).2.2.2.2 ∧ at5 wr.drew b (off + y * 5) (Z1 y).1 (Z1 y).2.1 (Z1 y).2.2.1 (Z1 y).2.2.2.1 (Z1 y).2.2.2.2 := ⟨at5_of (hT5.range hT.drew y hyl), at5_of (by rw [World.rangeAt_drew]; exact hrg')⟩
                  have hS' : Hid _ := hS
                  have hT' : Hid (Tail (Rep l0 (cv5 r fg bg a m) ++ M.drop (l0 * 5)) l0 Z1 q) := hT5
                  clear hS hT5
                  go_wp2
                  go_region_held3 (fun w' => at5 w' w1.heap.size ((l0 + y) * 5) (Z1 y).1 (Z1 y).2.1 (Z1 y).2.2.1 (Z1 y).2.2.2.1 (Z1 y).2.2.2.2 ∧ at5 w' b (off + y * 5) (Z1 y).1 (Z1 y).2.1 (Z1 y).2.2.1 (Z1 y).2.2.2.1 (Z1 y).2.2.2.2) (first | exact hS'.out | with_reducible assumption)
                    (first | (go_at_call 18; refine (zCell_any _ _ _ _ _ _).mono ?_; rintro e w6 ⟨rfl, hb6⟩; have hT6 := hT.drew.below hb6 hT.lt; have hS6 : at5 w6 w1.heap.size ((l0 + y) * 5) (Z1 y).1 (Z1 y).2.1 (Z1 y).2.2.1 (Z1 y).2.2.2.1 (Z1 y).2.2.2.2 ∧ at5 w6 b (off + y * 5) (Z1 y).1 (Z1 y).2.1 (Z1 y).2.2.1 (Z1 y).2.2.2.1 (Z1 y).2.2.2.2 := ⟨at5_of (Tail.range hT'.out hT6 y hyl), at5_of (range_below (by rw [World.rangeAt_drew]; exact hrg') hb6 hbN)⟩))
                  go_wp2
                  go_roundg (q - (y + 1))
                  case measure => omega
                  case rel => exact ⟨y + 1, by omega, rfl, by go_num, hT6, by have := hb6.size; simp at this; omega, hB.drew.trans (hb6.mono (by simpa using hNr))⟩
                · go_wp2
                  go_ret
                  exact ⟨rfl, hB⟩

end Go.Proofs.Qxb6604013a
