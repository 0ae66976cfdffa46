import Derived.Test.Qxb6604013aRun1
namespace Go.Proofs.Qxb6604013a
open Go.RowKit
set_option linter.unusedVariables false
attribute [local go_sem ↓] Go.wp_at_zero Go.wp_at_succ

/-- The first j runs lie at the row's head. -/
def Hd (L : List Value) (R : Nat → RunZ) (j : Nat) : Prop := ∀ i, i < j → ∀ q v, (cv4 (R i))[q]? = some v → L[i * 4 + q]? = some v
theorem Hd.step {L : List Value} {R : Nat → RunZ} {j : Nat} (h : Hd L R j) (hl : j * 4 + 4 ≤ L.length) : Hd (splice L (j * 4) (cv4 (R j))) R (j + 1) := by
  intro i hi q v hv
  have hq : q < 4 := (List.getElem?_eq_some_iff.1 hv).1
  rw [splice_get _ _ _ (by rw [cv4_length]; omega), cv4_length]
  by_cases e : i = j
  · subst e
    rw [if_neg (by omega), if_pos (by omega), ← hv]
    congr 1; omega
  · rw [if_pos (by omega)]
    exact h i (by omega) q v hv

set_option maxHeartbeats 400000 in
theorem cloneRuns_some (ad : Addr) (n cap b off : Nat) (R : Nat → RunZ) (w : World) (hn : n ≤ 65536) (hR : IsRuns w (some ad) n b off R) :
    Calls Try.prog 10 #[.slice (some ad) n cap] w fun e w' => e = .returned (.slice (some ⟨w.heap.size, 0, none⟩) n n) ∧ Blk w' w.heap.size 69 (rl R n) ∧ Below w.heap.size w w' := by
  have hq23 := fun (W : World) (x : Addr) (l c : Nat) => Lib.run_eql_slice_nil (P := Try.prog) W 23 69 (some x) l c 0 0 Try.underlying23
  simp only [Option.isNone_some] at hq23
  go_enter Try.func10, Try.ntmps10
  go_wp2_with (at_make; refine wpList_make_blk (by rfl) (.tmp 8) (.tmp 8) 23 (by rfl) 69 _ 4 16 Try.underlying23 info69 (by rfl) n (by rfl) (by rfl) (by omega) (by omega) ?_; intro w2 hT hb2 hs2)
  have hL : (Rep n (Value.agg #[.int .i32 0, .int .u32 0, .int .u32 0, .int .u8 0]).cells.toList).length = n * 4 := by rw [Rep_length]; rfl
  go_loopg [4] n (fun k i wr => ∃ (j : Nat) (L : List Value), j ≤ n ∧ k = n - j ∧ i = .int .i64 j ∧ Blk wr w.heap.size 69 L ∧ L.length = n * 4 ∧ Hd L R j ∧ Below w.heap.size w wr)
  case atStart => exact ⟨0, _, by omega, by omega, rfl, hT, hL, fun q hq => by omega, hb2⟩
  case round =>
    clear hT hL hb2
    obtain ⟨j, L, hj, rfl, rfl, hT, hL, hP, hBw⟩ := hrel
    by_cases hlt : j < n
    · have had : ad = ⟨b, off, none⟩ := by have := hR.1 (by omega); simpa using this
      subst had
      have hrg := range_below (hR.2 j hlt).1 hBw (hR.lt (by omega))
      have hl0 : (0 : Int) ≤ (j : Int) := by omega
      have hl1 : (j : Int) < (n : Int) := by omega
      go_wp2_with (first | (refine wpList_load_blk (by rfl) 69 (.tmp 20) (by rfl) b (off + j * 4) (by rfl) _ _ hrg Try.underlying69 rfl size69 ?_) | (refine wpList_store_blk (by rfl) 69 (.tmp 22) (.tmp 21) (by rfl) w.heap.size (j * 4) (by rfl) (cv4 (R j)) (by rfl) 69 L hT (by rw [cv4_length]; omega) size69 (fun v hv => cv4_one hv) ?_; intro w4 hb4 he4))
      go_roundg (n - (j + 1))
      case measure => omega
      case rel => exact ⟨j + 1, _, by omega, rfl, by go_num, hb4, by rw [length_splice _ _ _ (by rw [cv4_length]; omega)]; exact hL, hP.step (by omega), hBw.trans (he4.below hBw.size (by omega))⟩
    · obtain rfl : j = n := by omega
      go_wp2
      go_ret
      refine ⟨rfl, ?_, hBw⟩
      rw [← rl_of hL hP]; exact hT

set_option maxHeartbeats 400000 in
theorem cloneRuns_nil (w : World) :
    Calls Try.prog 10 #[.slice none 0 0] w fun e w' => e = .returned (.slice none 0 0) ∧ w' = w := by
  have hq23 := fun (W : World) => Lib.run_eql_slice_nil (P := Try.prog) W 23 69 none 0 0 0 0 Try.underlying23
  simp only [Option.isNone_none] at hq23
  go_enter Try.func10, Try.ntmps10
  go_wp2
  go_ret
  exact ⟨rfl, rfl⟩

set_option maxHeartbeats 400000 in
theorem makeRunEnd_any (e fg bg a : Int) (w : World) :
    Calls Try.prog 22 #[.int .i32 e, .agg #[.int .u32 fg, .int .u32 bg, .int .u8 a]] w fun r w' => r = .returned (.agg #[.int .i32 e, .int .u32 fg, .int .u32 bg, .int .u8 a]) ∧ Below w.heap.size w w' := by
  go_enter Try.func22, Try.ntmps22
  go_wp2
  exact bodyPost_ret (v := .agg #[.int .i32 e, .int .u32 fg, .int .u32 bg, .int .u8 a]) (by simp [results, Try.results22, go_sem]) rfl ⟨rfl, ((Below.refl _ _).alloc (Nat.le_refl _) _).alloc (by simp) _⟩

set_option maxHeartbeats 400000 in
theorem makePacked_any (a0 a1 : Option Addr) (l0 c0 l1 c1 : Nat) (w : World) :
    Calls Try.prog 24 #[.slice a0 l0 c0, .slice a1 l1 c1] w fun r w' => r = .returned (.agg #[.slice a0 l0 c0, .slice a1 l1 c1]) ∧ Below w.heap.size w w' := by
  go_enter Try.func24, Try.ntmps24
  go_wp2
  exact bodyPost_ret (v := .agg #[.slice a0 l0 c0, .slice a1 l1 c1]) (by simp [results, Try.results24, go_sem]) rfl ⟨rfl, (Below.refl _ _).alloc (Nat.le_refl _) _⟩

/-- Four cells at one place. -/
abbrev at4 (w' : World) (b o : Nat) (z : RunZ) : Prop :=
  w'.cell? ⟨b, o, none⟩ = some (.int .i32 z.1) ∧ w'.cell? ⟨b, o + 1, none⟩ = some (.int .u32 z.2.1) ∧ w'.cell? ⟨b, o + 2, none⟩ = some (.int .u32 z.2.2.1) ∧ w'.cell? ⟨b, o + 3, none⟩ = some (.int .u8 z.2.2.2)
theorem at4_of {w' : World} {b o : Nat} {z : RunZ} (h : w'.rangeAt b o (cv4 z)) : at4 w' b o z := ⟨h 0 _ rfl, h 1 _ rfl, h 2 _ rfl, h 3 _ rfl⟩
theorem at4_below {w w' : World} {b o D : Nat} {z : RunZ} (h : at4 w b o z) (hb : Below D w w') (hD : b < D) : at4 w' b o z := by
  obtain ⟨hc, _⟩ := bcell hb
  obtain ⟨h0, h1, h2, h3⟩ := h
  exact ⟨by rw [hc _ _ hD]; exact h0, by rw [hc _ _ hD]; exact h1, by rw [hc _ _ hD]; exact h2, by rw [hc _ _ hD]; exact h3⟩
theorem at4_set {w : World} {b o : Nat} {z : RunZ} (h : at4 w b o z) {p : Addr} (hp : b ≠ p.block) (v : Value) : at4 (w.setCell p v) b o z := by
  obtain ⟨h0, h1, h2, h3⟩ := h
  have hne : ∀ q, p ≠ ⟨b, q, none⟩ := fun q e => hp (by rw [e])
  exact ⟨by rw [World.cell?_setCell_other _ _ _ _ (hne _)]; exact h0, by rw [World.cell?_setCell_other _ _ _ _ (hne _)]; exact h1, by rw [World.cell?_setCell_other _ _ _ _ (hne _)]; exact h2, by rw [World.cell?_setCell_other _ _ _ _ (hne _)]; exact h3⟩
theorem at4_set4 {w : World} {b o : Nat} {z : RunZ} {g o0 o1 o2 o3 : Nat} {v0 v1 v2 v3 : Value} (h : at4 w b o z) (hne : b ≠ g) :
    at4 ((((w.setCell ⟨g, o0, none⟩ v0).setCell ⟨g, o1, none⟩ v1).setCell ⟨g, o2, none⟩ v2).setCell ⟨g, o3, none⟩ v3) b o z := at4_set (at4_set (at4_set (at4_set h hne _) hne _) hne _) hne _
/-- Four cells of a row that may be written. -/
theorem Blk.four {w : World} {b t : Nat} {L : List Value} (h : Blk w b t L) (o : Nat) (hl : o + 4 ≤ L.length) :
    (∃ v, w.cell? ⟨b, o, none⟩ = some v) ∧ (∃ v, w.cell? ⟨b, o + 1, none⟩ = some v) ∧ (∃ v, w.cell? ⟨b, o + 2, none⟩ = some v) ∧ (∃ v, w.cell? ⟨b, o + 3, none⟩ = some v) ∧ ∀ q, w.frozen? ⟨b, q, none⟩ = false := by
  refine ⟨⟨L[o], ?_⟩, ⟨L[o + 1], ?_⟩, ⟨L[o + 2], ?_⟩, ⟨L[o + 3], ?_⟩, fun q => h.frozen q⟩ <;> (rw [h.cell]; simp)

set_option maxHeartbeats 1000000 in
theorem pack_any (a0 a1 : Option Addr) (l0 c0 n c1 b off : Nat) (R : Nat → RunZ) (w : World) (hn : n ≤ 65536) (hR : IsRuns w a1 n b off R) :
    Calls Try.prog 12 #[.slice a0 l0 c0, .slice a1 n c1] w fun e w' => e = .returned (.agg #[.slice a0 l0 c0, .slice (some ⟨w.heap.size + 1, 0, none⟩) n n]) ∧ Blk w' (w.heap.size + 1) 72 (rl R n) ∧ Below w.heap.size w w' := by
  go_enter Try.func12, Try.ntmps12
  go_wp2_with (at_make; refine wpList_make_blk (by rfl) (.tmp 8) (.tmp 8) 41 (by rfl) 72 _ 4 16 Try.underlying41 info72 (by rfl) n (by rfl) (by rfl) (by omega) (by omega) ?_; intro w2 hT hb2 hs2)
  have hL : (Rep n (Value.agg #[.int .i32 0, .int .u32 0, .int .u32 0, .int .u8 0]).cells.toList).length = n * 4 := by rw [Rep_length]; rfl
  have hbox : Blk w2 w.heap.size 43 [.slice none 0 0, .slice none 0 0] := (Blk.new w 43 [.slice none 0 0, .slice none 0 0]).below hb2 (by simp)
  have hT' : Blk w2 (w.heap.size + 1) 72 (Rep n (Value.agg #[.int .i32 0, .int .u32 0, .int .u32 0, .int .u8 0]).cells.toList) := by simpa using hT
  have hB2 : Below w.heap.size w w2 := ((Below.refl _ w).alloc (Nat.le_refl _) _).trans (hb2.mono (by simp))
  clear hT hb2 hs2
  go_loopg [6] n (fun k i wr => ∃ (j : Nat) (L : List Value), j ≤ n ∧ k = n - j ∧ i = .int .i64 j ∧ Blk wr (w.heap.size + 1) 72 L ∧ L.length = n * 4 ∧ Hd L R j ∧ Blk wr w.heap.size 43 [.slice none 0 0, .slice none 0 0] ∧ Below w.heap.size w wr)
  case atStart => exact ⟨0, _, by omega, by omega, rfl, hT', hL, fun q hq => by omega, hbox, hB2⟩
  case round =>
    clear hT' hL hB2 hbox
    obtain ⟨j, L, hj, rfl, rfl, hT, hL, hP, hbox, hBw⟩ := hrel
    by_cases hlt : j < n
    · obtain rfl := hR.1 (by omega)
      have hbN := hR.lt (by omega)
      have hrg := at4_of (range_below (hR.2 j hlt).1 hBw hbN)
      have hl0 : (0 : Int) ≤ (j : Int) := by omega
      have hl1 : (j : Int) < (n : Int) := by omega
      have hS' : Hid (at4 wr.drew b (off + j * 4) (R j)) := hrg
      have hbr : b < wr.heap.size := by have := hBw.size; omega
      have hne : b ≠ w.heap.size + 1 := by omega
      have HP : Hid (Hd L R j) := hP
      clear hrg hP hR
      go_wp2
      go_region_held3 (fun w' => at4 w' b (off + j * 4) (R j)) (first | exact hS'.out | with_reducible assumption | with_reducible exact at4_set4 (by assumption) hne)
        (first | (go_at_call 23; refine (style_any _ _ _ _).mono ?_; rintro e w5 ⟨rfl, hb5⟩; have hS5 : at4 w5 b (off + j * 4) (R j) := at4_below hS'.out hb5 hbr) | (go_at_call 22; refine (makeRunEnd_any _ _ _ _ _).mono ?_; rintro e w6 ⟨rfl, hb6⟩; have hS6 : at4 w6 b (off + j * 4) (R j) := at4_below (by assumption) hb6 (by have := hb5.size; simp at this; omega); have hT6 := (hT.drew.below hb5 hT.lt).below hb6 (by have := hb5.size; have := hT.lt; simp at *; omega); obtain ⟨⟨v0, q0⟩, ⟨v1, q1⟩, ⟨v2, q2⟩, ⟨v3, q3⟩, qf⟩ := hT6.four (j * 4) (by omega)))
      have hT7 := hT6.stored (j * 4) (cv4 (R j)) (by rw [cv4_length]; omega)
      have hbox7 : Blk (w6.setCells (w.heap.size + 1) (j * 4) (cv4 (R j))) w.heap.size 43 [.slice none 0 0, .slice none 0 0] := ((hbox.drew.below hb5 hbox.lt).below hb6 (by have := hb5.size; have := hbox.lt; simp at *; omega)).stored_other (by omega) _ _
      have hBw7 : Below w.heap.size w (w6.setCells (w.heap.size + 1) (j * 4) (cv4 (R j))) := ((hBw.drew.trans (hb5.mono (by have := hBw.size; simp; omega))).trans (hb6.mono (by have := hb5.size; have := hBw.size; simp at *; omega))).trans ((Ex.setCells (S := fun k => k = w.heap.size + 1) (Ex.refl _ w6) (.inl rfl) _ _).below (by have := hb5.size; have := hb6.size; have := hBw.size; simp at *; omega) (by omega))
      have HT7 := And.intro hT7 (And.intro hbox7 hBw7)
      have HT : Hid _ := HT7
      clear hT7 hbox7 hBw7 HT7 hT6 q0 q1 q2 q3 qf hb5 hb6 hS' hT hbox hBw
      go_wp2
      go_roundg (n - (j + 1))
      case measure => omega
      case rel => exact ⟨j + 1, _, by omega, rfl, by go_num, HT.out.1, by rw [length_splice _ _ _ (by rw [cv4_length]; omega)]; exact hL, Hd.step HP.out (by omega), HT.out.2.1, HT.out.2.2⟩
    · obtain rfl : j = n := by omega
      go_wp2_with (go_at_call 24; refine (makePacked_any _ _ _ _ _ _ _).mono ?_; rintro e w5 ⟨rfl, hb5⟩; have hbox5 := hbox.below hb5 hbox.lt; have x0 : w5.cell? ⟨w.heap.size, 0, none⟩ = some (.slice none 0 0) := hbox5.cell 0; have x1 : w5.cell? ⟨w.heap.size, 1, none⟩ = some (.slice none 0 0) := hbox5.cell 1; have xf := hbox5.frozen)
      have hT5 := (hT.below hb5 hT.lt)
      rw [rl_of hL hP] at hT5
      refine bodyPost_ret (v := .agg #[.slice a0 l0 c0, .slice (some ⟨w.heap.size + 1, 0, none⟩) j j]) (by simp [results, Try.results12, go_sem, x0, x1]) rfl ⟨rfl, ?_, ?_⟩
      · exact (hT5.setCell_other (by simp) _).setCell_other (by simp) _
      · exact ((hBw.trans (hb5.mono hBw.size)).setCell (by simp) _).setCell (by simp) _

end Go.Proofs.Qxb6604013a
