import Derived.Test.Qxb6604013aFill
namespace Go.Proofs.Qxb6604013a
open Go.RowKit
set_option linter.unusedVariables false
attribute [local go_sem ↓] Go.wp_at_zero Go.wp_at_succ

set_option maxHeartbeats 400000 in
theorem bytes17_yes (r fg bg a m : Int) (ao : Option Addr) (len cap : Nat) (w : World) (h : len ≤ 1048576) :
    Calls Try.prog 17 #[.slice ao len cap, .agg #[.int .i32 r, .int .u32 fg, .int .u32 bg, .int .u8 a, .int .u32 m]] w fun e w' => e = .returned (.bool true) ∧ Below w.heap.size w w' := by
  go_enter Try.func17, Try.ntmps17
  go_wp2
  go_ret
  exact ⟨rfl, (Below.refl _ _).alloc (Nat.le_refl _) _⟩

set_option maxHeartbeats 400000 in
theorem bytes17_no (r fg bg a m : Int) (ao : Option Addr) (len cap : Nat) (w : World) (h : 1048576 < len) :
    Calls Try.prog 17 #[.slice ao len cap, .agg #[.int .i32 r, .int .u32 fg, .int .u32 bg, .int .u8 a, .int .u32 m]] w fun e w' => e = .returned (.bool false) ∧ Below w.heap.size w w' := by
  go_enter Try.func17, Try.ntmps17
  go_wp2
  go_ret
  exact ⟨rfl, (Below.refl _ _).alloc (Nat.le_refl _) _⟩

set_option maxHeartbeats 400000 in
theorem fill_zero (r fg bg a m : Int) (ao : Option Addr) (cap : Nat) (w : World) :
    Calls Try.prog 26 #[.slice ao 0 cap, .agg #[.int .i32 r, .int .u32 fg, .int .u32 bg, .int .u8 a, .int .u32 m]] w
      fun e w' => e = .returned (.tuple #[]) ∧ Below w.heap.size w w' := by
  go_enter Try.func26, Try.ntmps26
  go_wp2
  exact bodyPost_ret (results_none rfl _ _ _) rfl ⟨rfl, (Below.refl _ _).alloc (Nat.le_refl _) _⟩

set_option maxHeartbeats 400000 in
/-- ZZFill over a block that is known, whatever the length. -/
theorem zfill_any (r fg bg a m : Int) (g n cap : Nat) (C : List Value) (w : World) (hnc : n ≤ cap) (hcap : cap ≤ 52428) (hC : C.length = cap * 5) (hg : Blk w g 64 C) :
    Calls Try.prog 19 #[.slice (some ⟨g, 0, none⟩) n cap, .agg #[.int .i32 r, .int .u32 fg, .int .u32 bg, .int .u8 a, .int .u32 m]] w
      fun e w' => e = .returned (.tuple #[]) ∧ Blk w' g 64 (Rep n (cv5 r fg bg a m) ++ C.drop (n * 5)) ∧ Ex (fun k => k = g) w w' := by
  rcases Nat.eq_zero_or_pos n with rfl | hn
  · go_enter Try.func19, Try.ntmps19
    go_wp2_with (go_at_call 26; refine (fill_zero _ _ _ _ _ _ _ _).mono ?_; rintro e w1 ⟨rfl, hb1⟩)
    go_end0
    have hx := ((Ex.refl (fun k => k = g) w).alloc _).of_below hb1
    exact ⟨rfl, by simpa [Rep_zero] using (hg.alloc _).below hb1 (hg.alloc _).lt, hx⟩
  · go_enter Try.func19, Try.ntmps19
    go_wp2_with (go_at_call 26; refine (fill_any _ _ _ _ _ g n cap C _ hn hnc hcap hC (hg.alloc _)).mono ?_; rintro e w1 ⟨rfl, hb1, hx1⟩)
    go_end0
    exact ⟨rfl, hb1, ((Ex.refl (fun k => k = g) w).alloc _).trans hx1⟩

set_option maxHeartbeats 400000 in
theorem zfill_nil (r fg bg a m : Int) (w : World) :
    Calls Try.prog 19 #[.slice none 0 0, .agg #[.int .i32 r, .int .u32 fg, .int .u32 bg, .int .u8 a, .int .u32 m]] w
      fun e w' => e = .returned (.tuple #[]) ∧ Below w.heap.size w w' := by
  go_enter Try.func19, Try.ntmps19
  go_wp2_with (go_at_call 26; refine (fill_zero _ _ _ _ _ _ _ _).mono ?_; rintro e w1 ⟨rfl, hb1⟩)
  go_end0
  exact ⟨rfl, ((Below.refl _ w).alloc (Nat.le_refl _) _).trans (hb1.mono (by simp))⟩

/-- Five cells at one place. -/
abbrev at5 (w' : World) (b o : Nat) (r fg bg a m : Int) : Prop :=
  w'.cell? ⟨b, o, none⟩ = some (.int .i32 r) ∧ w'.cell? ⟨b, o + 1, none⟩ = some (.int .u32 fg) ∧ w'.cell? ⟨b, o + 2, none⟩ = some (.int .u32 bg) ∧ w'.cell? ⟨b, o + 3, none⟩ = some (.int .u8 a) ∧ w'.cell? ⟨b, o + 4, none⟩ = some (.int .u32 m)
theorem at5_of {w' : World} {b o : Nat} {r fg bg a m : Int} (h : w'.rangeAt b o (cv5 r fg bg a m)) : at5 w' b o r fg bg a m :=
  ⟨h 0 _ rfl, h 1 _ rfl, h 2 _ rfl, h 3 _ rfl, h 4 _ rfl⟩
theorem Rep_range {w : World} {b : Nat} {t : TypeId} {n : Nat} {r fg bg a m : Int} {L : List Value} (h : Blk w b t (Rep n (cv5 r fg bg a m) ++ L)) (i : Nat) (hi : i < n) : w.rangeAt b (i * 5) (cv5 r fg bg a m) :=
  h.range _ _ (fun j v hv => by
    have hj : j < 5 := (List.getElem?_eq_some_iff.1 hv).1
    rw [List.getElem?_append_left (by rw [Rep_length, cv5_length]; omega), show i * 5 + j = i * (cv5 r fg bg a m).length + j by rw [cv5_length], Rep_get _ _ _ _ hi hj]
    exact hv)
theorem info64 : (Try.prog.info? 64).map (fun i => (i.zero, i.size, i.bytes)) = some (some (.agg #[.int .i32 0, .int .u32 0, .int .u32 0, .int .u8 0, .int .u32 0]), 5, 20) := by kernel_rfl
theorem size60 : (Try.prog.info? 60).map (·.size) = some 5 := by kernel_rfl

/-- The elements of a slice of ZCells that came in. -/
def IsCells (w : World) (ad : Addr) (len : Nat) (Z : Nat → Int × Int × Int × Int × Int) : Prop :=
  ∀ i, i < len → ad.spot = none ∧ w.rangeAt ad.block (ad.off + i * 5) (cv5 (Z i).1 (Z i).2.1 (Z i).2.2.1 (Z i).2.2.2.1 (Z i).2.2.2.2)
theorem IsCells.lt {w : World} {ad : Addr} {len : Nat} {Z : Nat → Int × Int × Int × Int × Int} (h : IsCells w ad len Z) (hl : 0 < len) : ad.block < w.heap.size := by
  have := (h 0 hl).2 0 _ rfl
  exact World.block_lt_of_cell? w ⟨ad.block, _, none⟩ this

set_option maxHeartbeats 400000 in
theorem law5_some (r fg bg a m : Int) (ad : Addr) (len cap : Nat) (Z : Nat → Int × Int × Int × Int × Int) (w : World) (hlen : len ≤ 52428) (hZ : IsCells w ad len Z) :
    Calls Try.prog 5 #[.slice (some ad) len cap, .agg #[.int .i32 r, .int .u32 fg, .int .u32 bg, .int .u8 a, .int .u32 m]] w fun e w' => e = .returned (.bool true) ∧ Below w.heap.size w w' := by
  have hq62 := fun (W : World) (x : Addr) (l c : Nat) => Lib.run_eql_slice_nil (P := Try.prog) W 62 64 (some x) l c 0 0 Try.underlying62
  have hq58 := fun (W : World) (x : Addr) (l c : Nat) => Lib.run_eql_slice_nil (P := Try.prog) W 58 60 (some x) l c 0 0 Try.underlying58
  simp only [Option.isNone_some] at hq62 hq58
  go_enter Try.func5, Try.ntmps5
  go_wp2_with (first | (go_at_call 17; refine (bytes17_yes _ _ _ _ _ _ _ _ _ (by omega)).mono ?_; rintro e w1 ⟨rfl, hb1⟩) | (at_make; refine wpList_make_blk (by rfl) (.tmp 19) (.tmp 19) 62 (by rfl) 64 _ 5 20 Try.underlying62 info64 (by rfl) len (by rfl) (by rfl) (by omega) (by omega) ?_; intro w2 hT hb2 hs2))
  have hN : w.heap.size < w1.heap.size := by have := hb1.size; simp at this; omega
  have hbox : Blk w2 w.heap.size 60 (cv5 r fg bg a m) := ((Blk.new w 60 (cv5 r fg bg a m)).below hb1 (by simp)).below hb2 hN
  have hB : Below w.heap.size w w2 := ((((Below.refl _ w).alloc (Nat.le_refl _) _).trans (hb1.mono (by simp))).trans (hb2.mono (by omega)))
  have hL : (Rep len (Value.agg #[.int .i32 0, .int .u32 0, .int .u32 0, .int .u8 0, .int .u32 0]).cells.toList).length = len * 5 := by rw [Rep_length]; rfl
  clear hb1 hb2
  obtain ⟨b, off, sp⟩ := ad
  go_loopg [6] len (fun k i wr => ∃ (j : Nat) (L : List Value), j ≤ len ∧ k = len - j ∧ i = .int .i64 j ∧ Blk wr w1.heap.size 64 L ∧ L.length = len * 5 ∧ Blk wr w.heap.size 60 (cv5 r fg bg a m) ∧ Below w.heap.size w wr)
  case atStart => exact ⟨0, _, by omega, by omega, rfl, hT, hL, hbox, hB⟩
  case round =>
    clear hT hL hbox hB
    obtain ⟨j, L, hj, rfl, rfl, hT, hL, hbox, hB⟩ := hrel
    by_cases hlt : j < len
    · obtain ⟨hsp, hrg⟩ := hZ j hlt
      have hsp' : sp = none := hsp
      subst hsp'
      have hbN : b < w.heap.size := hZ.lt (by omega)
      have hrg' : wr.rangeAt b (off + j * 5) (cv5 (Z j).1 (Z j).2.1 (Z j).2.2.1 (Z j).2.2.2.1 (Z j).2.2.2.2) := fun q v hv => (hB.cell (p := ⟨b, off + j * 5 + q, none⟩) hbN).trans (hrg q v hv)
      clear hrg hsp
      have hl0 : (0 : Int) ≤ (j : Int) := by omega
      have hl1 : (j : Int) < (len : Int) := by omega
      go_wp2_with (first | (refine wpList_load_blk (by rfl) 60 (.tmp 31) (by rfl) b (off + j * 5) (by rfl) _ _ hrg' Try.underlying60 rfl size60 ?_) | (go_at_call 18; refine (zCell_any _ _ _ _ _ _).mono ?_; rintro e w3 ⟨rfl, hb3⟩) | (refine wpList_store_blk (by rfl) 64 (.tmp 34) (.tmp 33) (by rfl) w1.heap.size (j * 5) (by rfl) (cv5 (Z j).1 (Z j).2.1 (Z j).2.2.1 (Z j).2.2.2.1 (Z j).2.2.2.2) (by rfl) 64 L (hT.below hb3 hT.lt) (by rw [cv5_length]; omega) size64 (fun v hv => cv5_one hv) ?_; intro w4 hb4 he4))
      go_roundg (len - (j + 1))
      case measure => omega
      case rel =>
        have hN' := hbox.lt
        exact ⟨j + 1, _, by omega, rfl, by go_num, hb4, by rw [length_splice _ _ _ (by rw [cv5_length]; omega)]; exact hL, (hbox.below hb3 hbox.lt).ex he4 (by omega), (hB.trans (hb3.mono (by omega))).trans (he4.below (by have := hb3.size; omega) (by omega))⟩
    · go_wp2_with (first | (refine wpList_load_blk (by rfl) 60 (.tmp 3) (by rfl) w.heap.size 0 (by rfl) (cv5 r fg bg a m) _ (hbox.range 0 _ (by simp)) Try.underlying60 rfl size60 ?_) | (go_at_call 18; refine (zCell_any _ _ _ _ _ _).mono ?_; rintro e w3 ⟨rfl, hb3⟩) | (go_at_call 19; refine (zfill_any _ _ _ _ _ w1.heap.size len len L _ (Nat.le_refl _) hlen hL ((hT.below hb3 hT.lt).alloc _)).mono ?_; rintro e w4 ⟨rfl, hb4, he4⟩))
      have hTL : w1.heap.size < w3.heap.size := by have := hT.lt; have := hb3.size; omega
      have hV : Blk w4 w3.heap.size 64 (cv5 r fg bg a m) := (Blk.new w3 64 (cv5 r fg bg a m)).ex he4 (by omega)
      have hB4 : Below w.heap.size w w4 := (((hB.trans (hb3.mono (by have := hbox.lt; omega))).alloc (by have := hbox.lt; omega) _).trans (he4.below (by have := hbox.lt; simp; omega) (by omega)))
      clear he4 hb3 hT hbox hL hB hZ
      go_loopg [8] len (fun k i wr => ∃ (q : Nat), q ≤ len ∧ k = len - q ∧ i = .int .i64 q ∧ Blk wr w1.heap.size 64 (Rep len (cv5 r fg bg a m) ++ L.drop (len * 5)) ∧ Blk wr w3.heap.size 64 (cv5 r fg bg a m) ∧ Below w.heap.size w wr)
      case atStart => exact ⟨0, by omega, by omega, rfl, hb4, hV, hB4⟩
      case round =>
        clear hb4 hV hB4
        obtain ⟨q, hq, rfl, rfl, hT, hV, hB⟩ := hrel
        by_cases hql : q < len
        · have hl0 : (0 : Int) ≤ (q : Int) := by omega
          have hl1 : (q : Int) < (len : Int) := by omega
          have s1 : at5 wr.drew w1.heap.size (q * 5) r fg bg a m := at5_of (Rep_range hT.drew q hql)
          have s2 : at5 wr.drew w3.heap.size 0 r fg bg a m := at5_of (hV.drew.range 0 _ (by simp))
          have hS : at5 wr.drew w1.heap.size (q * 5) r fg bg a m ∧ at5 wr.drew w3.heap.size 0 r fg bg a m := ⟨s1, s2⟩
          have hS' : Hid _ := hS
          clear s1 s2 hS
          go_wp2
          go_region_held3 (fun w' => at5 w' w1.heap.size (q * 5) r fg bg a m ∧ at5 w' w3.heap.size 0 r fg bg a m) (exact hS'.out) (fail)
          go_wp2
          go_roundg (len - (q + 1))
          case measure => omega
          case rel => exact ⟨q + 1, by omega, rfl, by go_num, hT.drew, hV.drew, hB.drew⟩
        · go_wp2
          go_ret
          exact ⟨rfl, hB⟩

set_option maxHeartbeats 400000 in
theorem law5_nil (r fg bg a m : Int) (w : World) :
    Calls Try.prog 5 #[.slice none 0 0, .agg #[.int .i32 r, .int .u32 fg, .int .u32 bg, .int .u8 a, .int .u32 m]] w fun e w' => e = .returned (.bool true) ∧ Below w.heap.size w w' := by
  have hq62 := fun (W : World) => Lib.run_eql_slice_nil (P := Try.prog) W 62 64 none 0 0 0 0 Try.underlying62
  have hq58 := fun (W : World) => Lib.run_eql_slice_nil (P := Try.prog) W 58 60 none 0 0 0 0 Try.underlying58
  simp only [Option.isNone_none] at hq62 hq58
  go_enter Try.func5, Try.ntmps5
  go_wp2_with (first | (go_at_call 17; refine (bytes17_yes _ _ _ _ _ _ _ _ _ (by omega)).mono ?_; rintro e w1 ⟨rfl, hb1⟩; have hc := fun j => (bcell hb1).1 w.heap.size j (by simp)) | (go_at_call 18; refine (zCell_any _ _ _ _ _ _).mono ?_; rintro e w2 ⟨rfl, hb2⟩) | (go_at_call 19; refine (zfill_nil _ _ _ _ _ _).mono ?_; rintro e w3 ⟨rfl, hb3⟩))
  refine wp_loop_rounds 1 ?_
  rw [rounds_succ]
  go_wp2
  go_ret
  exact ⟨rfl, ((((Below.refl _ w).alloc (Nat.le_refl _) _).trans (hb1.mono (by simp))).trans (hb2.mono (by have := hb1.size; simp at this; omega))).alloc (by have := hb1.size; have := hb2.size; simp at *; omega) _ |>.trans (hb3.mono (by have := hb1.size; have := hb2.size; simp at *; omega))⟩

set_option maxHeartbeats 400000 in
theorem law5_big (r fg bg a m : Int) (ao : Option Addr) (len cap : Nat) (w : World) (h : 52428 < len) :
    Calls Try.prog 5 #[.slice ao len cap, .agg #[.int .i32 r, .int .u32 fg, .int .u32 bg, .int .u8 a, .int .u32 m]] w fun e w' => e = .returned (.bool true) ∧ Below w.heap.size w w' := by
  by_cases hb : len ≤ 1048576
  · go_enter Try.func5, Try.ntmps5
    go_wp2_with (first | (go_at_call 17; refine (bytes17_yes _ _ _ _ _ _ _ _ _ hb).mono ?_; rintro e w1 ⟨rfl, hb1⟩))
    go_ret
    exact ⟨rfl, (((Below.refl _ w).alloc (Nat.le_refl _) _).trans (hb1.mono (by simp)))⟩
  · go_enter Try.func5, Try.ntmps5
    go_wp2_with (first | (go_at_call 17; refine (bytes17_no _ _ _ _ _ _ _ _ _ (by omega)).mono ?_; rintro e w1 ⟨rfl, hb1⟩))
    go_ret
    exact ⟨rfl, (((Below.refl _ w).alloc (Nat.le_refl _) _).trans (hb1.mono (by simp)))⟩

end Go.Proofs.Qxb6604013a
