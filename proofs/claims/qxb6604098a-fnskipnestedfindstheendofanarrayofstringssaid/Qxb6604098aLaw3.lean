import Derived.Test.Qxb6604098aWalk2
namespace Go.Proofs.Qxb6604098a
open Go.RowKit
set_option linter.unusedVariables false
set_option linter.unusedSimpArgs false
attribute [local go_sem ↓] Go.wp_at_zero Go.wp_at_succ

def bl (B : Nat → Int) (n : Nat) : List Value := (List.range n).map fun i => .int .u8 (B i)
theorem bl_length (B : Nat → Int) (n : Nat) : (bl B n).length = n := by simp [bl]
theorem bl_get (B : Nat → Int) (n i : Nat) (h : i < n) : (bl B n)[i]? = some (.int .u8 (B i)) := by simp [bl, h]
theorem bl_one {B : Nat → Int} {n : Nat} {v : Value} (h : v ∈ bl B n) : v.oneCell' = true := by
  simp [bl] at h
  obtain ⟨i, _, rfl⟩ := h
  rfl
theorem info5 : (Try.prog.info? 5).map (fun i => (i.zero, i.size, i.bytes)) = some (some (.int .u8 0), 1, 1) := by kernel_rfl

/-- 'copy' of bytes over a whole new row. -/
theorem wpList_copy_bytes {w : World} {ops : Array Oper} {rest : List Oper} {o : Oper} {a : Act} {Q : Exit → Act → World → Prop} (hgd : o.guard = none) (d s : Operand)
    (ho : o.op = .call { callee := .builtin .copy, args := #[d, s], argTypes := #[22, 22] })
    (g n cS : Nat) (aS : Option Addr) (hd : a.eval d = .slice (some ⟨g, 0, none⟩) n n) (hs : a.eval s = .slice aS n cS) (bS oS : Nat) (B : Nat → Int) (hB : IsBytes w aS n bS oS B)
    (L : List Value) (hL : Blk w g 5 L) (hfit : L.length = n)
    (h : ∀ w', Blk w' g 5 (bl B n) → Ex (fun k => k = g) w w' → wpList Try.prog ops Q rest (a.put o.dst (goInt n)) w') :
    wpList Try.prog ops Q (o :: rest) a w := by
  rcases Nat.eq_zero_or_pos n with rfl | hn
  · refine wpList_copy_nothing hgd d s 22 22 ho 5 Try.underlying22 (by kernel_rfl) _ _ _ _ _ _ hd hs (by simp) ?_
    have e : bl B 0 = L := by simp [bl, List.eq_nil_of_length_eq_zero hfit]
    exact h w (by rw [e]; exact hL) (Ex.refl _ _)
  · obtain rfl := hB.1 hn
    refine wpList_copy_own hgd d s 22 22 ho 5 Try.underlying22 (by kernel_rfl) g 0 n n ⟨bS, oS, none⟩ n cS hd hs L.toArray 5 hL (bl B n) (by simp [bl_length]) (fun j v hv => ?_) (by simp [bl_length, hfit]) (fun v hv => bl_one hv) ?_
    · have hj : j < n := by have := (List.getElem?_eq_some_iff.1 hv).1; rwa [bl_length] at this
      rw [bl_get _ _ _ hj] at hv
      rw [Addr.add_mid, hB.2 j hj]; exact hv
    · have e : ((bl B n).length : Int) = (n : Int) := by rw [bl_length]
      rw [e]
      have := h (w.setRow g (bl B n).toArray) (hL.setRow _) (Ex.setRow (S := fun k => k = g) (Ex.refl _ w) rfl _)
      simpa [bl_length, ← hfit] using this

theorem Blk.bytes {w : World} {b t : Nat} {B : Nat → Int} {n : Nat} (h : Blk w b t (bl B n)) : IsBytes w (some ⟨b, 0, none⟩) n b 0 B :=
  ⟨fun _ => rfl, fun i hi => by rw [h.cell, Nat.zero_add, bl_get _ _ _ hi]⟩

set_option maxHeartbeats 400000 in
theorem bytes7_yes (a0 : Option Addr) (l0 c0 : Nat) (at_ : Int) (w : World) (h : l0 ≤ 1048576) :
    Calls Try.prog 7 #[.slice a0 l0 c0, .int .i64 at_] w fun e w' => e = .returned (.bool true) ∧ w = w' := by
  go_enter Try.func7, Try.ntmps7
  go_wp2
  go_ret
  exact ⟨rfl, rfl⟩

set_option maxHeartbeats 400000 in
theorem bytes7_no (a0 : Option Addr) (l0 c0 : Nat) (at_ : Int) (w : World) (h : 1048576 < l0) :
    Calls Try.prog 7 #[.slice a0 l0 c0, .int .i64 at_] w fun e w' => e = .returned (.bool false) ∧ w = w' := by
  go_enter Try.func7, Try.ntmps7
  go_wp2
  go_ret
  exact ⟨rfl, rfl⟩

set_option maxHeartbeats 400000 in
theorem law3_out (a0 : Option Addr) (l0 c0 : Nat) (at_ : Int) (w : World) (h : 1048576 < l0 ∨ at_ < 0 ∨ (l0 : Int) < at_) :
    Calls Try.prog 3 #[.slice a0 l0 c0, .int .i64 at_] w fun e w' => e = .returned (.bool true) ∧ w = w' := by
  by_cases hb : l0 ≤ 1048576
  · by_cases h0 : at_ < 0
    · go_enter Try.func3, Try.ntmps3
      go_wp2_with (go_at_call 7; refine (bytes7_yes _ _ _ _ _ hb).mono ?_; rintro e w1 ⟨rfl, rfl⟩)
      go_ret
      exact ⟨rfl, rfl⟩
    · have hd : decide (at_ < 0) = false := decide_eq_false h0
      have h2 : (l0 : Int) < at_ := by omega
      go_enter Try.func3, Try.ntmps3
      go_wp2_with (go_at_call 7; refine (bytes7_yes _ _ _ _ _ hb).mono ?_; rintro e w1 ⟨rfl, rfl⟩)
      go_ret
      exact ⟨rfl, rfl⟩
  · go_enter Try.func3, Try.ntmps3
    go_wp2_with (go_at_call 7; refine (bytes7_no _ _ _ _ _ (by omega)).mono ?_; rintro e w1 ⟨rfl, rfl⟩)
    go_ret
    exact ⟨rfl, rfl⟩

set_option maxHeartbeats 1000000 in
theorem law3_some (ad : Addr) (n c b off i0 : Nat) (B : Nat → Int) (w : World) (hn : n ≤ 1048576) (hi0 : i0 ≤ n) (hB : IsBytes w (some ad) n b off B) :
    Calls Try.prog 3 #[.slice (some ad) n c, .int .i64 (i0 : Int)] w fun e w' => e = .returned (.bool true) ∧ Below w.heap.size w w' := by
  have hd : decide ((i0 : Int) < 0) = false := decide_eq_false (by omega)
  have hL : (Rep n (Value.int .u8 0).cells.toList).length = n := by rw [Rep_length]; simp [Value.cells]
  obtain ⟨X, hX⟩ : ∃ X : Nat × Bool × Nat, X = (ws B n i0, ge B n (ws B n i0 + 1), g B n (ws B n i0 + 1)) := ⟨_, rfl⟩
  have HX : Hid _ := hX
  go_enter Try.func3, Try.ntmps3
  go_wp2_with (first | (go_at_call 7; refine (bytes7_yes _ _ _ _ _ hn).mono ?_; rintro e w1 ⟨rfl, rfl⟩) | (at_make; refine wpList_make_blk (by rfl) (.tmp 30) (.tmp 30) 22 (by rfl) 5 _ 1 1 Try.underlying22 info5 (by rfl) n (by rfl) (by rfl) (by omega) (by omega) ?_; intro w2 hT hb2 hs2) | (refine wpList_copy_bytes (by rfl) (.tmp 32) (.tmp 33) (by rfl) w.heap.size n c (some ad) (by rfl) (by rfl) b off B (hB.below hb2) _ hT hL ?_; intro w3 hT3 hx3) | (go_at_call 8; refine (zskipString_any _ n n w.heap.size 0 i0 B _ (by omega) hi0 hT3.bytes).mono ?_; rintro e w4 ⟨rfl, hb4⟩) | (go_at_call 9; refine (modelString_any _ n n w.heap.size 0 i0 B _ (by omega) hi0 (hT3.bytes.below hb4)).mono ?_; rintro e w5 ⟨rfl, rfl⟩))
  go_ret
  exact ⟨rfl, (hb2.trans (hx3.below hb2.size (by omega))).trans (hb4.mono (by have := hb2.size; have := hx3.size; omega))⟩

set_option maxHeartbeats 1000000 in
theorem law3_nil (w : World) :
    Calls Try.prog 3 #[.slice none 0 0, .int .i64 0] w fun e w' => e = .returned (.bool true) ∧ Below w.heap.size w w' := by
  have hB : ∀ W : World, IsBytes W none 0 0 0 (fun _ => 0) := fun W => ⟨fun h => by omega, fun i hi => by omega⟩
  go_enter Try.func3, Try.ntmps3
  go_wp2_with (first | (go_at_call 7; refine (bytes7_yes _ _ _ _ _ (by omega)).mono ?_; rintro e w1 ⟨rfl, rfl⟩) | (go_at_call 8; refine (zskipString_any none 0 0 0 0 0 (fun _ => 0) _ (by omega) (by omega) (hB _)).mono ?_; rintro e w4 ⟨rfl, hb4⟩) | (go_at_call 9; refine (modelString_any none 0 0 0 0 0 (fun _ => 0) _ (by omega) (by omega) (hB _)).mono ?_; rintro e w5 ⟨rfl, rfl⟩))
  go_ret
  exact ⟨rfl, hb4⟩

theorem law3_any (a : Option Addr) (n c b off : Nat) (at_ : Int) (B : Nat → Int) (w : World) (hn0 : a = none → n = 0 ∧ c = 0) (hB : IsBytes w a n b off B) :
    Calls Try.prog 3 #[.slice a n c, .int .i64 at_] w fun e w' => e = .returned (.bool true) ∧ Below w.heap.size w w' := by
  by_cases h : 1048576 < n ∨ at_ < 0 ∨ (n : Int) < at_
  · refine (law3_out a n c at_ w h).mono ?_
    rintro e w' ⟨rfl, rfl⟩
    exact ⟨rfl, Below.refl _ _⟩
  · obtain ⟨i0, rfl⟩ : ∃ i0 : Nat, at_ = (i0 : Int) := ⟨at_.toNat, by omega⟩
    cases a with
    | none =>
      obtain ⟨rfl, rfl⟩ := hn0 rfl
      obtain rfl : i0 = 0 := by omega
      exact law3_nil w
    | some ad => exact law3_some ad n c b off i0 B w (by omega) (by omega) hB

end Go.Proofs.Qxb6604098a
