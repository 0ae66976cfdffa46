import Derived.Test.Qxb6604098aLaw5
namespace Go.Proofs.Qxb6604098a
open Go.RowKit
set_option linter.unusedVariables false
set_option linter.unusedSimpArgs false
attribute [local go_sem ↓] Go.wp_at_zero Go.wp_at_succ

set_option maxHeartbeats 400000 in
theorem bytes14_yes (a0 : Option Addr) (l0 c0 : Nat) (at_ : Int) (w : World) (h : l0 ≤ 1048576) :
    Calls Try.prog 14 #[.slice a0 l0 c0, .int .i64 at_] w fun e w' => e = .returned (.bool true) ∧ w = w' := by
  go_enter Try.func14, Try.ntmps14
  go_wp2
  go_ret
  exact ⟨rfl, rfl⟩

set_option maxHeartbeats 400000 in
theorem bytes14_no (a0 : Option Addr) (l0 c0 : Nat) (at_ : Int) (w : World) (h : 1048576 < l0) :
    Calls Try.prog 14 #[.slice a0 l0 c0, .int .i64 at_] w fun e w' => e = .returned (.bool false) ∧ w = w' := by
  go_enter Try.func14, Try.ntmps14
  go_wp2
  go_ret
  exact ⟨rfl, rfl⟩

set_option maxHeartbeats 400000 in
theorem law5_out (a0 : Option Addr) (l0 c0 : Nat) (at_ : Int) (w : World) (h : 1048576 < l0 ∨ at_ < 0 ∨ (l0 : Int) < at_) :
    Calls Try.prog 5 #[.slice a0 l0 c0, .int .i64 at_] w fun e w' => e = .returned (.bool true) ∧ w = w' := by
  by_cases hb : l0 ≤ 1048576
  · by_cases h0 : at_ < 0
    · go_enter Try.func5, Try.ntmps5
      go_wp2_with (go_at_call 14; refine (bytes14_yes _ _ _ _ _ hb).mono ?_; rintro e w1 ⟨rfl, rfl⟩)
      go_ret
      exact ⟨rfl, rfl⟩
    · have hd : decide (at_ < 0) = false := decide_eq_false h0
      have h2 : (l0 : Int) < at_ := by omega
      go_enter Try.func5, Try.ntmps5
      go_wp2_with (go_at_call 14; refine (bytes14_yes _ _ _ _ _ hb).mono ?_; rintro e w1 ⟨rfl, rfl⟩)
      go_ret
      exact ⟨rfl, rfl⟩
  · go_enter Try.func5, Try.ntmps5
    go_wp2_with (go_at_call 14; refine (bytes14_no _ _ _ _ _ (by omega)).mono ?_; rintro e w1 ⟨rfl, rfl⟩)
    go_ret
    exact ⟨rfl, rfl⟩

set_option maxHeartbeats 1000000 in
theorem law5_some (ad : Addr) (n c b off i0 : Nat) (B : Nat → Int) (w : World) (hn : n ≤ 1048576) (hi0 : i0 ≤ n) (hB : IsBytes w (some ad) n b off B) :
    Calls Try.prog 5 #[.slice (some ad) n c, .int .i64 (i0 : Int)] w fun e w' => e = .returned (.bool true) ∧ Below w.heap.size w w' := by
  have hd : decide ((i0 : Int) < 0) = false := decide_eq_false (by omega)
  have hL : (Rep n (Value.int .u8 0).cells.toList).length = n := by rw [Rep_length]; simp [Value.cells]
  go_enter Try.func5, Try.ntmps5
  go_wp2_with (first | (go_at_call 14; refine (bytes14_yes _ _ _ _ _ hn).mono ?_; rintro e w1 ⟨rfl, rfl⟩) | (at_make; refine wpList_make_blk (by rfl) (.tmp 24) (.tmp 24) 22 (by rfl) 5 _ 1 1 Try.underlying22 info5 (by rfl) n (by rfl) (by rfl) (by omega) (by omega) ?_; intro w2 hT hb2 hs2) | (refine wpList_copy_bytes (by rfl) (.tmp 26) (.tmp 27) (by rfl) w.heap.size n c (some ad) (by rfl) (by rfl) b off B (hB.below hb2) _ hT hL ?_; intro w3 hT3 hx3) | (go_at_call 15; refine (zskipNested_any _ n n w.heap.size 0 i0 B _ (by omega) hi0 hT3.bytes).mono ?_; rintro e w4 ⟨rfl, hb4⟩) | (go_at_call 16; refine (modelNested_any _ n n w.heap.size 0 i0 B _ (by omega) hi0 (hT3.bytes.below hb4)).mono ?_; rintro e w5 ⟨rfl, rfl⟩))
  go_ret
  exact ⟨rfl, (hb2.trans (hx3.below hb2.size (by omega))).trans (hb4.mono (by have := hb2.size; have := hx3.size; omega))⟩

set_option maxHeartbeats 1000000 in
theorem law5_nil (w : World) :
    Calls Try.prog 5 #[.slice none 0 0, .int .i64 0] w fun e w' => e = .returned (.bool true) ∧ Below w.heap.size w w' := by
  have hB : ∀ W : World, IsBytes W none 0 0 0 (fun _ => 0) := fun W => ⟨fun h => by omega, fun i hi => by omega⟩
  go_enter Try.func5, Try.ntmps5
  go_wp2_with (first | (go_at_call 14; refine (bytes14_yes _ _ _ _ _ (by omega)).mono ?_; rintro e w1 ⟨rfl, rfl⟩) | (go_at_call 15; refine (zskipNested_any none 0 0 0 0 0 (fun _ => 0) _ (by omega) (by omega) (hB _)).mono ?_; rintro e w4 ⟨rfl, hb4⟩) | (go_at_call 16; refine (modelNested_any none 0 0 0 0 0 (fun _ => 0) _ (by omega) (by omega) (hB _)).mono ?_; rintro e w5 ⟨rfl, rfl⟩))
  go_ret
  exact ⟨rfl, hb4⟩

theorem law5_any (a : Option Addr) (n c b off : Nat) (at_ : Int) (B : Nat → Int) (w : World) (hn0 : a = none → n = 0 ∧ c = 0) (hB : IsBytes w a n b off B) :
    Calls Try.prog 5 #[.slice a n c, .int .i64 at_] w fun e w' => e = .returned (.bool true) ∧ Below w.heap.size w w' := by
  by_cases h : 1048576 < n ∨ at_ < 0 ∨ (n : Int) < at_
  · refine (law5_out a n c at_ w h).mono ?_
    rintro e w' ⟨rfl, rfl⟩
    exact ⟨rfl, Below.refl _ _⟩
  · obtain ⟨i0, rfl⟩ : ∃ i0 : Nat, at_ = (i0 : Int) := ⟨at_.toNat, by omega⟩
    cases a with
    | none =>
      obtain ⟨rfl, rfl⟩ := hn0 rfl
      obtain rfl : i0 = 0 := by omega
      exact law5_nil w
    | some ad => exact law5_some ad n c b off i0 B w (by omega) (by omega) hB

end Go.Proofs.Qxb6604098a
