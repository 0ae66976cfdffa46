import Derived.Test.Qxb6604098aProg
import Derived.Test.Qxb6604098aKit
import Derived.Test.Qxb6604098aPlain
import Derived.WalkKit
import Derived.WalkSpells
import Derived.WalkLawsBesides
import Derived.Deep.RegionHeld3
import Derived.Deep.DrawnRows
import Derived.Deep.LoopGhost
namespace Go.Proofs.Qxb6604098a
open Go.RowKit
set_option linter.unusedVariables false
set_option linter.unusedSimpArgs false
attribute [local go_sem ↓] Go.wp_at_zero Go.wp_at_succ

/-- len bytes lie behind the slice's address a, at ⟨b, off⟩ on. -/
def IsBytes (w : World) (a : Option Addr) (len b off : Nat) (B : Nat → Int) : Prop :=
  (0 < len → a = some ⟨b, off, none⟩) ∧ ∀ i, i < len → w.cell? ⟨b, off + i, none⟩ = some (.int .u8 (B i))
theorem IsBytes.lt {w : World} {a : Option Addr} {len b off : Nat} {B : Nat → Int} (h : IsBytes w a len b off B) (hl : 0 < len) : b < w.heap.size := World.block_lt_of_cell? w ⟨b, _, none⟩ (h.2 0 hl)
theorem IsBytes.below {w w' : World} {a : Option Addr} {len b off : Nat} {B : Nat → Int} (h : IsBytes w a len b off B) (hb : Below w.heap.size w w') : IsBytes w' a len b off B :=
  ⟨h.1, fun i hi => (hb.cell (p := ⟨b, off + i, none⟩) (h.lt (by omega))).trans (h.2 i hi)⟩
theorem IsBytes.ex {w w' : World} {a : Option Addr} {len b off : Nat} {B : Nat → Int} {S : Nat → Prop} (h : IsBytes w a len b off B) (hx : Ex S w w') (hS : 0 < len → ¬ S b) : IsBytes w' a len b off B :=
  ⟨h.1, fun i hi => (World.cell?_of_block (w := w) (w' := w') (a := ⟨b, off + i, none⟩) (hx.block b (h.lt (by omega)) (hS (by omega)))).trans (h.2 i hi)⟩

theorem Blk.setCell {w : World} {b : Nat} {t : TypeId} {L : List Value} (h : Blk w b t L) (o : Nat) (v : Value) : Blk (w.setCell ⟨b, o, none⟩ v) b t (L.set o v) := by
  rw [setCell_eq_setRow w b o _ t (0, 0) v h]
  have := h.setRow (L.set o v)
  simpa using this
theorem Ex.setCell1 {a w : World} {g : Nat} (h : Ex (fun k => k = g) a w) (o : Nat) (v : Value) : Ex (fun k => k = g) a (w.setCell ⟨g, o, none⟩ v) :=
  h.trans ⟨rfl, rfl, rfl, by simp, fun k _ hk => Below.heap_setCell _ _ _ _ hk⟩

/-- The walker's two cells. -/
abbrev wk (P : Nat) (a : Option Addr) (n c : Nat) (i : Int) (w' : World) : Prop := w'.cell? ⟨P, 0, none⟩ = some (.slice a n c) ∧ w'.cell? ⟨P, 1, none⟩ = some (.int .i64 i)
theorem Blk.wk {w : World} {P : Nat} {a : Option Addr} {n c : Nat} {i : Int} (h : Blk w P 35 [.slice a n c, .int .i64 i]) : wk P a n c i w := ⟨h.cell 0, h.cell 1⟩
theorem Blk.at_set {w : World} {P : Nat} {a : Option Addr} {n c : Nat} {i : Int} (h : Blk w P 35 [.slice a n c, .int .i64 i]) (j : Int) : Blk (w.setCell ⟨P, 1, none⟩ (.int .i64 j)) P 35 [.slice a n c, .int .i64 j] := h.setCell 1 (.int .i64 j)

set_option maxHeartbeats 400000 in
theorem space_any (c : Int) (w : World) : Calls Try.prog 11 #[.int .u8 c] w fun e w' => e = .returned (.bool (spaceB c)) ∧ w' = w := by
  by_cases h1 : c = 32
  · subst h1
    go_enter Try.func11, Try.ntmps11
    go_wp2
    go_ret
    exact ⟨rfl, rfl⟩
  by_cases h2 : c = 9
  · subst h2
    go_enter Try.func11, Try.ntmps11
    go_wp2
    go_ret
    exact ⟨rfl, rfl⟩
  by_cases h3 : c = 10
  · subst h3
    go_enter Try.func11, Try.ntmps11
    go_wp2
    go_ret
    exact ⟨rfl, rfl⟩
  by_cases h4 : c = 13
  · subst h4
    go_enter Try.func11, Try.ntmps11
    go_wp2
    go_ret
    exact ⟨rfl, rfl⟩
  have e1 : (c == 32) = false := by simp [h1]
  have e2 : (c == 9) = false := by simp [h2]
  have e3 : (c == 10) = false := by simp [h3]
  have e4 : (c == 13) = false := by simp [h4]
  have e5 := spaceB_no h1 h2 h3 h4
  go_enter Try.func11, Try.ntmps11
  go_wp2
  go_ret
  exact ⟨by rw [e5]; rfl, rfl⟩

/-- Some byte comes back. -/
def RetByte (e : Ending) : Prop := ∃ v, e = .returned (.int .u8 v)
set_option maxHeartbeats 1000000 in
/-- 'next' passes over white space. -/
theorem next_any (P : Nat) (a : Option Addr) (n c b off i0 : Nat) (B : Nat → Int) (w : World) (hn : n ≤ 4194304) (hi0 : i0 ≤ n) (hP : Blk w P 35 [.slice a n c, .int .i64 (i0 : Int)]) (hB : IsBytes w a n b off B) (hbP : 0 < n → b ≠ P) :
    Calls Try.prog 20 #[.pointer (some ⟨P, 0, none⟩)] w fun e w' => RetByte e ∧ Blk w' P 35 [.slice a n c, .int .i64 ((ws B n i0 : Nat) : Int)] ∧ Ex (fun k => k = P) w w' := by
  go_enter Try.func20, Try.ntmps20
  go_wp2
  go_loopg [] (n - i0) (fun k wr => ∃ i : Nat, i ≤ n ∧ k = n - i ∧ ws B n i = ws B n i0 ∧ Blk wr P 35 [.slice a n c, .int .i64 (i : Int)] ∧ Ex (fun k => k = P) w wr)
  case atStart => exact ⟨i0, hi0, rfl, rfl, hP, Ex.refl _ _⟩
  case round =>
    obtain ⟨i, hi, rfl, hws, hPr, hex⟩ := hrel
    have hS : Hid (wk P a n c i wr.drew) := hPr.drew.wk
    have HW : Hid (ws B n i = ws B n i0) := hws
    clear hws
    by_cases hlt : i < n
    · obtain rfl := hB.1 (by omega)
      have hc : wr.cell? ⟨b, off + i, none⟩ = some (.int .u8 (B i)) := ((hB.ex hex (fun h => hbP h)).2 i hlt)
      have hl0 : (0 : Int) ≤ (i : Int) := by omega
      have hl1 : (i : Int) < (n : Int) := by omega
      have hlb : decide ((i : Int) < (n : Int)) = true := decide_eq_true hl1
      go_wp2
      go_region_held3 (wk P (some ⟨b, off, none⟩) n c i) (exact hS.out) (fail)
      go_wp2
      go_region_held3 (fun w' => wk P (some ⟨b, off, none⟩) n c i w' ∧ w'.cell? ⟨b, off + i, none⟩ = some (.int .u8 (B i))) (exact ⟨hS.out, hc⟩) (fail)
      have hx1 := hPr.wk.2
      have hxf := hPr.frozen 1
      have hM2 := hPr.at_set ((i : Int) + 1)
      have hE2 := hex.setCell1 1 (.int .i64 ((i : Int) + 1))
      have HM : Hid _ := And.intro hM2 hE2
      clear hM2 hE2
      by_cases hsp : B i = 32 ∨ B i = 9 ∨ B i = 10 ∨ B i = 13
      · have HW2 : Hid (ws B n (i + 1) = ws B n i0) := (ws_yes B hlt (spaceB_yes hsp)).symm.trans HW.out
        rcases hsp with hsp | hsp | hsp | hsp
        all_goals
          go_wp2
          go_roundg (n - (i + 1))
          case measure => omega
          case rel => exact ⟨i + 1, by omega, rfl, HW2.out, HM.out.1, HM.out.2.drew.drew⟩
      · have h1 : (B i == 32) = false := by simp; omega
        have h2 : (B i == 9) = false := by simp; omega
        have h3 : (B i == 10) = false := by simp; omega
        have h4 : (B i == 13) = false := by simp; omega
        have HW2 : Hid (ws B n i0 = i) := HW.out.symm.trans (ws_no B (fun _ => spaceB_no (by omega) (by omega) (by omega) (by omega)))
        clear hsp
        go_wp2
        go_ret
        exact ⟨⟨_, rfl⟩, by rw [HW2.out]; exact hPr.drew.drew, hex.drew.drew⟩
    · go_wp2
      go_region_held3 (wk P a n c i) (exact hS.out) (fail)
      go_wp2
      go_ret
      exact ⟨⟨_, rfl⟩, by rw [← HW.out, ws_end B (by omega)]; exact hPr.drew, hex.drew⟩


set_option maxHeartbeats 2000000 in
/-- 'skipString': what it returns, and where it leaves the walker. -/
theorem skipString_any (P : Nat) (a : Option Addr) (n c b off i0 : Nat) (B : Nat → Int) (w : World) (hn : n ≤ 4194304) (hi0 : i0 ≤ n) (hP : Blk w P 35 [.slice a n c, .int .i64 (i0 : Int)]) (hB : IsBytes w a n b off B) (hbP : 0 < n → b ≠ P) :
    Calls Try.prog 18 #[.pointer (some ⟨P, 0, none⟩)] w fun e w' => e = .returned (.tuple #[.int .i64 ((ws B n i0 : Nat) : Int), .bool (ge B n (ws B n i0 + 1))]) ∧
      Blk w' P 35 [.slice a n c, .int .i64 ((g B n (ws B n i0 + 1) : Nat) : Int)] ∧ Ex (fun k => k = P) w w' := by
  obtain ⟨s, hs⟩ : ∃ s, ws B n i0 = s := ⟨_, rfl⟩
  have hsn : s ≤ n := by rw [← hs]; exact (ws_bounds B n i0).2 hi0
  rw [hs]
  have HS : Hid (ws B n i0 = s) := hs
  clear hs
  go_enter Try.func18, Try.ntmps18
  go_wp2_with (go_at_call 20; refine (next_any P a n c b off i0 B _ hn hi0 hP hB hbP).mono ?_; rintro e w1 ⟨⟨v, rfl⟩, hP1, hex1⟩; rw [HS.out] at hP1; have hx1 := hP1.wk.2; have hxf := hP1.frozen 1)
  have hP2 : Blk (w1.setCell ⟨P, 1, none⟩ (.int .i64 ((s : Int) + 1))) P 35 [.slice a n c, .int .i64 (((s + 1 : Nat)) : Int)] := hP1.at_set ((s : Int) + 1)
  have hex2 := hex1.setCell1 1 (.int .i64 ((s : Int) + 1))
  clear hx1 hxf hP1 hex1
  generalize w1.setCell ⟨P, 1, none⟩ (.int .i64 ((s : Int) + 1)) = w2 at hP2 hex2 ⊢
  go_loopg [2, 3] (n + 1 - (s + 1)) (fun k st es wr => ∃ (i : Nat) (esc : Bool), s + 1 ≤ i ∧ i ≤ n + 1 ∧ k = n + 1 - i ∧ st = .int .i64 (s : Int) ∧ es = .bool esc ∧ g B n i = g B n (s + 1) ∧ (esc || ge B n i) = ge B n (s + 1) ∧ Blk wr P 35 [.slice a n c, .int .i64 (i : Int)] ∧ Ex (fun k => k = P) w wr)
  case atStart => exact ⟨s + 1, false, Nat.le_refl _, by omega, rfl, rfl, rfl, rfl, by simp, hP2, hex2⟩
  case round =>
    clear hP2 hex2
    obtain ⟨i, esc, hi1, hi2, rfl, rfl, rfl, hg, he, hPr, hex⟩ := hrel
    have hS : Hid (wk P a n c i wr.drew) := hPr.drew.wk
    have HG : Hid (g B n i = g B n (s + 1) ∧ (esc || ge B n i) = ge B n (s + 1)) := ⟨hg, he⟩
    clear hg he
    by_cases hlt : i < n
    · obtain rfl := hB.1 (by omega)
      have hc : wr.cell? ⟨b, off + i, none⟩ = some (.int .u8 (B i)) := ((hB.ex hex (fun h => hbP h)).2 i hlt)
      have hl0 : (0 : Int) ≤ (i : Int) := by omega
      have hl1 : (i : Int) < (n : Int) := by omega
      have hx1 := hPr.wk.2
      have hxf := hPr.frozen 1
      go_wp2
      go_region_held3 (wk P (some ⟨b, off, none⟩) n c i) (exact hS.out) (fail)
      go_wp2
      go_region_held3 (fun w' => wk P (some ⟨b, off, none⟩) n c i w' ∧ w'.cell? ⟨b, off + i, none⟩ = some (.int .u8 (B i))) (exact ⟨hS.out, hc⟩) (fail)
      have hM1 := hPr.at_set ((i : Int) + 1)
      have hE1 := hex.setCell1 1 (.int .i64 ((i : Int) + 1))
      have HM : Hid _ := And.intro hM1 hE1
      have HM2 : Hid _ := And.intro (hM1.at_set ((i : Int) + 1 + 1)) (hE1.setCell1 1 (.int .i64 ((i : Int) + 1 + 1)))
      have HM3 : Hid _ := And.intro (hPr.at_set ((i : Int) + 1 + 1)) (hex.setCell1 1 (.int .i64 ((i : Int) + 1 + 1)))
      clear hM1 hE1
      by_cases hb92 : B i = 92
      · have HG2 : Hid (g B n (i + 2) = g B n (s + 1) ∧ (true || ge B n (i + 2)) = ge B n (s + 1)) := ⟨(g_back B hlt hb92).symm.trans HG.out.1, by rw [← HG.out.2, ge_back B hlt hb92]; simp⟩
        go_wp2
        go_roundg (n + 1 - (i + 2))
        case measure => omega
        case rel => first | exact ⟨i + 2, true, by omega, by omega, rfl, rfl, rfl, HG2.out.1, HG2.out.2, HM2.out.1, HM2.out.2.drew.drew⟩ | exact ⟨i + 2, true, by omega, by omega, rfl, rfl, rfl, HG2.out.1, HG2.out.2, HM3.out.1, HM3.out.2.drew.drew⟩
      · by_cases hb34 : B i = 34
        · have HG2 : Hid (g B n (s + 1) = i + 1 ∧ ge B n (s + 1) = esc) := ⟨HG.out.1.symm.trans (g_quote B hlt hb34), by rw [← HG.out.2, ge_quote B hlt hb34]; simp⟩
          go_wp2
          go_ret2
          exact ⟨by rw [HG2.out.2]; rfl, by rw [HG2.out.1]; exact HM.out.1, HM.out.2.drew.drew⟩
        · have h1 : (B i == 92) = false := by simp [hb92]
          have h2 : (B i == 34) = false := by simp [hb34]
          have HG2 : Hid (g B n (i + 1) = g B n (s + 1) ∧ (esc || ge B n (i + 1)) = ge B n (s + 1)) := ⟨(g_other B hlt hb92 hb34).symm.trans HG.out.1, by rw [← HG.out.2, ge_other B hlt hb92 hb34]⟩
          go_wp2
          go_roundg (n + 1 - (i + 1))
          case measure => omega
          case rel => exact ⟨i + 1, esc, by omega, by omega, rfl, rfl, rfl, HG2.out.1, HG2.out.2, HM.out.1, HM.out.2.drew.drew⟩
    · have HG2 : Hid (g B n (s + 1) = i ∧ ge B n (s + 1) = esc) := ⟨HG.out.1.symm.trans (g_end B (by omega)), by rw [← HG.out.2, ge_end B (by omega)]; simp⟩
      go_wp2
      go_region_held3 (wk P a n c i) (exact hS.out) (fail)
      go_wp2
      go_ret2
      exact ⟨by rw [HG2.out.2]; rfl, by rw [HG2.out.1]; exact hPr.drew, hex.drew⟩

set_option maxHeartbeats 400000 in
theorem zskipString_any (a : Option Addr) (n c b off i0 : Nat) (B : Nat → Int) (w : World) (hn : n ≤ 4194304) (hi0 : i0 ≤ n) (hB : IsBytes w a n b off B) :
    Calls Try.prog 8 #[.slice a n c, .int .i64 (i0 : Int)] w fun e w' => e = .returned (.tuple #[.int .i64 ((ws B n i0 : Nat) : Int), .bool (ge B n (ws B n i0 + 1)), .int .i64 ((g B n (ws B n i0 + 1) : Nat) : Int)]) ∧ Below w.heap.size w w' := by
  have hb0 : 0 < n → b ≠ w.heap.size := fun h => by have := hB.lt h; omega
  obtain ⟨s, hs⟩ : ∃ s, ws B n i0 = s := ⟨_, rfl⟩
  obtain ⟨gg, hgg⟩ : ∃ gg, g B n (s + 1) = gg := ⟨_, rfl⟩
  obtain ⟨ee, hee⟩ : ∃ ee, ge B n (s + 1) = ee := ⟨_, rfl⟩
  have HS : Hid (ws B n i0 = s ∧ g B n (s + 1) = gg ∧ ge B n (s + 1) = ee) := ⟨hs, hgg, hee⟩
  rw [hs, hgg, hee]
  clear hs hgg hee
  go_enter Try.func8, Try.ntmps8
  go_wp2_with (go_at_call 18; refine (skipString_any w.heap.size a n c b off i0 B _ hn hi0 (Blk.new w 35 [.slice a n c, .int .i64 (i0 : Int)]) (hB.below ((Below.refl _ w).alloc (Nat.le_refl _) _)) hb0).mono ?_; rw [HS.out.1, HS.out.2.1, HS.out.2.2]; rintro e w1 ⟨rfl, hP1, hex1⟩)
  have hS : Hid (wk w.heap.size a n c gg w1.drew) := hP1.drew.wk
  go_region_held3 (wk w.heap.size a n c gg) (exact hS.out) (fail)
  go_wp2
  go_ret3
  refine ⟨rfl, ?_⟩
  exact (((Below.refl _ w).alloc (Nat.le_refl _) _).trans (hex1.drew.below (by simp) (by omega)))

end Go.Proofs.Qxb6604098a
