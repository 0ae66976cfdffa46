import Derived.Test.Qxb6604013aCell
import Derived.Test.Qxb6604013aKit
import Derived.Deep.LoopGhost
namespace Go.Proofs.Qxb6604013a
open Go.RowKit
set_option linter.unusedVariables false
attribute [local go_sem ↓] Go.wp_at_zero Go.wp_at_succ

/-- The five cells of a Cell. -/
def cv5 (r fg bg a m : Int) : List Value := [.int .i32 r, .int .u32 fg, .int .u32 bg, .int .u8 a, .int .u32 m]
theorem cv5_length (r fg bg a m : Int) : (cv5 r fg bg a m).length = 5 := rfl
theorem cv5_one {r fg bg a m : Int} {v : Value} (h : v ∈ cv5 r fg bg a m) : v.oneCell' = true := by
  simp [cv5] at h
  rcases h with rfl | rfl | rfl | rfl | rfl <;> rfl

theorem size64 : (Try.prog.info? 64).map (·.size) = some 5 := by kernel_rfl

theorem rep_start (cv C : List Value) (n : Nat) (h5 : cv.length = 5) (hn : 0 < n) : splice C 0 cv = Rep (min 1 n) cv ++ C.drop (min 1 n * 5) := by
  have : min 1 n = 1 := by omega
  rw [this]; simp [splice, Rep_one, h5]
/-- What one copy of the doubling does. -/
theorem rep_step (cv C : List Value) (j n : Nat) (h5 : cv.length = 5) (hlt : j < n) (hC : n * 5 ≤ C.length) :
    splice (Rep (min j n) cv ++ C.drop (min j n * 5)) (j * 5) (Rep (min j (n - j)) cv) = Rep (min (j * 2) n) cv ++ C.drop (min (j * 2) n * 5) := by
  have e1 : min j n = j := by omega
  have e2 : min (j * 2) n = j + min j (n - j) := by omega
  have l1 : (Rep j cv).length = j * 5 := by rw [Rep_length, h5]
  rw [e1, e2, Rep_add]
  unfold splice
  rw [Rep_length, h5, List.take_append_of_le_length (by omega), List.take_of_length_le (by omega), List.drop_append, l1, List.drop_of_length_le (by omega), List.drop_drop]
  simp only [List.nil_append, List.append_assoc]
  congr 3
  omega

set_option maxHeartbeats 400000 in
theorem fill_any (r fg bg a m : Int) (g n cap : Nat) (C : List Value) (w : World) (hn : 0 < n) (hnc : n ≤ cap) (hcap : cap ≤ 52428) (hC : C.length = cap * 5) (hg : Blk w g 64 C) :
    Calls Try.prog 26 #[.slice (some ⟨g, 0, none⟩) n cap, .agg #[.int .i32 r, .int .u32 fg, .int .u32 bg, .int .u8 a, .int .u32 m]] w
      fun e w' => e = .returned (.tuple #[]) ∧ Blk w' g 64 (Rep n (cv5 r fg bg a m) ++ C.drop (n * 5)) ∧ Ex (fun k => k = g) w w' := by
  have hn0 : ((n : Int) == 0) = false := by simp; omega
  have hn1 : (0 : Int) < (n : Int) := by omega
  go_enter Try.func26, Try.ntmps26
  go_wp2_with (refine wpList_store_blk (by rfl) 64 (.tmp 10) (.tmp 9) (by rfl) g 0 (by rfl) (cv5 r fg bg a m) (by rfl) 64 C (hg.alloc _) (by rw [cv5_length]; omega) size64 (fun v hv => cv5_one hv) ?_; intro w1 hb1 he1)
  rw [rep_start _ C n (cv5_length ..) hn] at hb1
  have hx1 : Ex (fun k => k = g) w w1 := ((Ex.refl _ w).alloc _).trans he1
  clear he1
  go_wp2
  go_loopg [4] (n - 1) (fun k i wr => ∃ j : Nat, 1 ≤ j ∧ j ≤ 2 * n ∧ k = n - j ∧ i = .int .i64 j ∧ Blk wr g 64 (Rep (min j n) (cv5 r fg bg a m) ++ C.drop (min j n * 5)) ∧ Ex (fun k => k = g) w wr)
  case atStart => exact ⟨1, by omega, by omega, by omega, rfl, hb1, hx1⟩
  case round =>
    obtain ⟨j, hj1, hj2, rfl, rfl, hbl, hex⟩ := hrel
    by_cases hlt : j < n
    · have hl1 : (0 : Int) ≤ (j : Int) := by omega
      have hl2 : (j : Int) ≤ (n : Int) := by omega
      have hl3 : (j : Int) ≤ (cap : Int) := by omega
      have hl4 : (n : Int) ≤ (cap : Int) := by omega
      have hl5 : ¬ cap = j := by omega
      have hl6 : ¬ cap = 0 := by omega
      have hs := rep_step (cv5 r fg bg a m) C j n (cv5_length ..) hlt (by omega)
      have hl : (Rep (min j n) (cv5 r fg bg a m) ++ C.drop (min j n * 5)).length = C.length := by
        rw [List.length_append, Rep_length, cv5_length, List.length_drop]; omega
      have hcs : (Rep (min j (n - j)) (cv5 r fg bg a m)).length = min j (n - j) * 5 := by rw [Rep_length, cv5_length]
      have hsrc : ∀ q v, (Rep (min j (n - j)) (cv5 r fg bg a m))[q]? = some v → wr.drew.cell? ((⟨g, 0, none⟩ : Addr).add q) = some v := by
        intro q v hq
        have hq' : q < min j (n - j) * 5 := by have := (List.getElem?_eq_some_iff.1 hq).1; omega
        rw [Addr.add_mid, hbl.drew.cell]
        rw [List.getElem?_append_left (by rw [Rep_length, cv5_length]; omega)]
        rw [show 0 + q = q by omega, show min j n = min j (n - j) + (min j n - min j (n - j)) by omega, Rep_add, List.getElem?_append_left (by rw [hcs]; exact hq')]
        exact hq
      have hone : ∀ v ∈ Rep (min j (n - j)) (cv5 r fg bg a m), v.oneCell' = true := fun v hv => cv5_one (Rep_mem hv)
      have hfit : j * 5 + (Rep (min j (n - j)) (cv5 r fg bg a m)).length ≤ (Rep (min j n) (cv5 r fg bg a m) ++ C.drop (min j n * 5)).length := by rw [hcs, hl]; omega
      have HS := And.intro hs (And.intro hsrc (And.intro hone (And.intro hfit hcs)))
      have HS' : Hid _ := HS
      clear hs hl HS hsrc hone hfit hcs
      go_wp2
      go_region_held3 (fun _ => True) (trivial)
        (refine step_copy_wide (by rfl) (.tmp 19) (.tmp 22) 62 62 (by rfl) 64 5 Try.underlying62 size64 (n - j) (cap - j) j cap g (j * 5) ⟨g, 0, none⟩ (by rfl) (by rfl) _ 64 hbl.drew (Rep (min j (n - j)) (cv5 r fg bg a m)) HS'.out.2.2.2.2 HS'.out.2.1 HS'.out.2.2.2.1 HS'.out.2.2.1 ?_)
      have hb2 := hbl.drew.setRow (splice (Rep (min j n) (cv5 r fg bg a m) ++ C.drop (min j n * 5)) (j * 5) (Rep (min j (n - j)) (cv5 r fg bg a m)))
      have hx2 := hex.drew.setRow (g := g) rfl (splice (Rep (min j n) (cv5 r fg bg a m) ++ C.drop (min j n * 5)) (j * 5) (Rep (min j (n - j)) (cv5 r fg bg a m))).toArray
      go_wp2
      go_roundg (n - j * 2)
      case measure => omega
      case rel => exact ⟨j * 2, by omega, by omega, rfl, by go_num, by rw [← HS'.out.1]; exact hb2, hx2⟩
    · go_wp2
      go_end0
      rw [show min j n = n by omega] at hbl
      exact ⟨rfl, hbl, hex⟩

end Go.Proofs.Qxb6604013a
