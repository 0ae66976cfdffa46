import Derived.Test.Qxb6604098aPlain2
import Derived.OwnWalk
namespace Go.Proofs.Qxb6604098a
open Go.RowKit
set_option linter.unusedVariables false
set_option linter.unusedSimpArgs false
attribute [local go_sem ↓] Go.wp_at_zero Go.wp_at_succ

theorem IsBytes.under {w w' : World} {a : Option Addr} {len b off base : Nat} {B : Nat → Int} (h : IsBytes w a len b off B) (hb : Below base w w') (hl : 0 < len → b < base) : IsBytes w' a len b off B :=
  ⟨h.1, fun i hi => (hb.cell (p := ⟨b, off + i, none⟩) (hl (by omega))).trans (h.2 i hi)⟩

theorem Own.read {w : World} {base : Nat} {ao : Option Addr} {n c : Nat} {xs : List Int} (h : Own w base (.slice ao n c) xs) (hn : n = xs.length) : ∃ b, IsBytes w ao n b 0 (fun i => xs.getD i 0) := by
  obtain ⟨b, hb, _⟩ := h.bytes hn
  exact ⟨b, hb⟩

/-- 'append', its length by a letter. -/
theorem wpList_append_at {w : World} {ops : Array Oper} {rest : List Oper} {o : Oper} {a : Act} {Q : Exit → Act → World → Prop} (hgd : o.guard = none) (s x : Operand)
    (ho : o.op = .call { callee := .builtin .append, args := #[s, x], argTypes := #[22, 22] }) (base : Nat) (ao : Option Addr) (n c : Nat) (xs : List Int) (hn : n = xs.length) (hs : a.eval s = .slice ao n c) (hown : Own w base (.slice ao n c) xs)
    (ax : Option Addr) (m cx b off : Nat) (Y : Nat → Int) (hx : a.eval x = .slice ax m cx) (hY : IsBytes w ax m b off Y) (hbd : n + m ≤ 4194304) (hbase : base ≤ w.heap.size) (N : Nat) (hN : N = n + m)
    (h : ∀ ao' c' w', Own w' base (.slice ao' N c') (xs ++ (List.range m).map Y) → Below base w w' → wpList Try.prog ops Q rest (a.put o.dst (.slice ao' N c')) w') :
    wpList Try.prog ops Q (o :: rest) a w := by
  subst hN
  exact wpList_append_bytes hgd s x ho base ao n c xs hn hs hown ax m cx b off Y hx hY hbd hbase h

def QAt (w : World) (base E : Nat) (xs : List Int) (e : Ending) (w' : World) : Prop := ∃ ao' c', e = .returned (.slice ao' E c') ∧ Own w' base (.slice ao' E c') xs ∧ Below base w w'
theorem appendQuoted_at (ao a1 : Option Addr) (c l1 c1 base b1 o1 N E : Nat) (xs : List Int) (C : Nat → Int) (w : World) (hN : N = xs.length) (hE : E = N + ((qs C l1).length + 2)) (hown : Own w base (.slice ao N c) xs) (hC : IsBytes w a1 l1 b1 o1 C) (hb1 : 0 < l1 → b1 < base) (hbase : base ≤ w.heap.size)
    (hbd : N + 2 * l1 + 2 ≤ 4194304) :
    Calls Try.prog 12 #[.slice ao N c, .slice a1 l1 c1] w (QAt w base E (xs ++ (34 :: (qs C l1 ++ [34])))) := by
  subst hN
  refine (appendQuoted_any ao a1 c l1 c1 base b1 o1 xs C w hown hC hb1 hbase hbd).mono ?_
  rintro e w' ⟨ao', c', rfl, h1, h2⟩
  have e1 : xs.length + (34 :: (qs C l1 ++ [34])).length = E := by rw [hE]; simp
  rw [e1] at h1
  exact ⟨ao', c', by rw [e1], h1, h2⟩

theorem wpList_make_bytes {w : World} {ops : Array Oper} {rest : List Oper} {o : Oper} {a : Act} {Q : Exit → Act → World → Prop} (hg : o.guard = none) (l c : Operand) (hop : o.op = Op.makeSlice 22 l c)
    (n : Nat) (hl : a.eval l = .int .i64 0) (hc : a.eval c = .int .i64 (n : Int)) (hn : n ≤ 4194304)
    (hK : ∀ ao w', Own w' w.heap.size (.slice ao 0 n) [] → Below w.heap.size w w' → wpList Try.prog ops Q rest (a.put o.dst (.slice ao 0 n)) w') :
    wpList Try.prog ops Q (o :: rest) a w := by
  obtain ⟨i0, hi0, hz0, hz1, hz2⟩ := info_parts info5
  refine wpList_make_own w hg l c 22 hop w.heap.size 5 i0 _ 1 Try.underlying22 hi0 hz0 hz1 .i64 .i64 (n : Int) n hl hc rfl (by rw [hz2]; omega) (by unfold maxLen; omega) (Nat.le_refl _) ?_
  intro w' h1 h2
  exact hK _ w' h1 ⟨h2.os, h2.tape, h2.output, h2.size, fun k hk => h2.block k hk (fun e => by cases e)⟩

set_option maxHeartbeats 400000 in
theorem bytes10_yes (a0 a1 a2 : Option Addr) (l0 c0 l1 c1 l2 c2 : Nat) (w : World) (h : l0 + l1 + l2 ≤ 1048576) :
    Calls Try.prog 10 #[.slice a0 l0 c0, .slice a1 l1 c1, .slice a2 l2 c2] w fun e w' => e = .returned (.bool true) ∧ w = w' := by
  go_enter Try.func10, Try.ntmps10
  go_wp2
  go_ret
  exact ⟨rfl, rfl⟩

set_option maxHeartbeats 400000 in
theorem bytes10_no (a0 a1 a2 : Option Addr) (l0 c0 l1 c1 l2 c2 : Nat) (w : World) (h : 1048576 < l0 + l1 + l2) :
    Calls Try.prog 10 #[.slice a0 l0 c0, .slice a1 l1 c1, .slice a2 l2 c2] w fun e w' => e = .returned (.bool false) ∧ w = w' := by
  by_cases h0 : l0 ≤ 1048576
  · by_cases h1 : l1 ≤ 1048576
    · by_cases h01 : l0 + l1 ≤ 1048576
      · by_cases h2 : l2 ≤ 1048576
        all_goals
          go_enter Try.func10, Try.ntmps10
          go_wp2
          go_ret
          exact ⟨rfl, rfl⟩
      · go_enter Try.func10, Try.ntmps10
        go_wp2
        go_ret
        exact ⟨rfl, rfl⟩
    · go_enter Try.func10, Try.ntmps10
      go_wp2
      go_ret
      exact ⟨rfl, rfl⟩
  · go_enter Try.func10, Try.ntmps10
    go_wp2
    go_ret
    exact ⟨rfl, rfl⟩

set_option maxHeartbeats 1000000 in
theorem law4_out (a0 a1 a2 : Option Addr) (l0 c0 l1 c1 l2 c2 : Nat) (w : World) (h : 262144 < l0 ∨ 262144 < l1 ∨ 262144 < l2) :
    Calls Try.prog 4 #[.slice a0 l0 c0, .slice a1 l1 c1, .slice a2 l2 c2] w fun e w' => e = .returned (.bool true) ∧ w = w' := by
  by_cases hs : l0 + l1 + l2 ≤ 1048576
  · by_cases h0 : 262144 < l0
    · have hd0 : decide ((262144 : Int) < (l0 : Int)) = true := decide_eq_true (by omega)
      go_enter Try.func4, Try.ntmps4
      go_wp2_with (go_at_call 10; refine (bytes10_yes _ _ _ _ _ _ _ _ _ _ hs).mono ?_; rintro e w1 ⟨rfl, rfl⟩)
      go_ret
      exact ⟨rfl, rfl⟩
    · have hd0 : decide ((262144 : Int) < (l0 : Int)) = false := decide_eq_false (by omega)
      by_cases h1 : 262144 < l1
      · have hd1 : decide ((262144 : Int) < (l1 : Int)) = true := decide_eq_true (by omega)
        go_enter Try.func4, Try.ntmps4
        go_wp2_with (go_at_call 10; refine (bytes10_yes _ _ _ _ _ _ _ _ _ _ hs).mono ?_; rintro e w1 ⟨rfl, rfl⟩)
        go_ret
        exact ⟨rfl, rfl⟩
      · have hd1 : decide ((262144 : Int) < (l1 : Int)) = false := decide_eq_false (by omega)
        have h2 : 262144 < l2 := by omega
        have hd2 : decide ((262144 : Int) < (l2 : Int)) = true := decide_eq_true (by omega)
        go_enter Try.func4, Try.ntmps4
        go_wp2_with (go_at_call 10; refine (bytes10_yes _ _ _ _ _ _ _ _ _ _ hs).mono ?_; rintro e w1 ⟨rfl, rfl⟩)
        go_ret
        exact ⟨rfl, rfl⟩
  · go_enter Try.func4, Try.ntmps4
    go_wp2_with (go_at_call 10; refine (bytes10_no _ _ _ _ _ _ _ _ _ _ (by omega)).mono ?_; rintro e w1 ⟨rfl, rfl⟩)
    go_ret
    exact ⟨rfl, rfl⟩

set_option maxHeartbeats 1000000 in
theorem holds_any (a : Option Addr) (n c b off : Nat) (C : Nat → Int) (w : World) (hn : n ≤ 4194304) (hB : IsBytes w a n b off C) :
    Calls Try.prog 13 #[.slice a n c] w fun e w' => e = .returned (.bool (hbn C n)) ∧ w = w' := by
  obtain ⟨x, hx⟩ : ∃ x, hbn C n = x := ⟨_, rfl⟩
  have HX : Hid (hbn C n = x) := hx
  rw [hx]
  clear hx
  go_enter Try.func13, Try.ntmps13
  go_wp2
  go_loopg [3] n (fun k q wr => ∃ i : Nat, i ≤ n ∧ k = n - i ∧ q = .int .i64 (i : Int) ∧ hbn C i = false ∧ w = wr)
  case atStart => exact ⟨0, by omega, rfl, rfl, rfl, rfl⟩
  case round =>
    obtain ⟨i, hi, rfl, rfl, hf, rfl⟩ := hrel
    have HF : Hid (hbn C i = false) := hf
    clear hf
    by_cases hlt : i < n
    · obtain rfl := hB.1 (by omega)
      have hc : w.cell? ⟨b, off + i, none⟩ = some (.int .u8 (C i)) := hB.2 i hlt
      have hl0 : (0 : Int) ≤ (i : Int) := by omega
      have hl1 : (i : Int) < (n : Int) := by omega
      by_cases h34 : C i = 34
      · obtain rfl : x = true := HX.out.symm.trans (hbn_yes C hlt (.inl h34))
        go_wp2
        go_ret
        exact ⟨rfl, rfl⟩
      · have h1 : (C i == 34) = false := by simp [h34]
        by_cases h92 : C i = 92
        · obtain rfl : x = true := HX.out.symm.trans (hbn_yes C hlt (.inr h92))
          go_wp2
          go_ret
          exact ⟨rfl, rfl⟩
        · have h2 : (C i == 92) = false := by simp [h92]
          have HF2 : Hid (hbn C (i + 1) = false) := by show hbn C (i + 1) = false; rw [hbn_succ, HF.out, h1, h2]; rfl
          go_wp2
          go_roundg (n - (i + 1))
          case measure => omega
          case rel => exact ⟨i + 1, by omega, rfl, by go_num, HF2.out, rfl⟩
    · obtain rfl : i = n := by omega
      obtain rfl : x = false := HX.out.symm.trans HF.out
      go_wp2
      go_ret
      exact ⟨rfl, rfl⟩
end Go.Proofs.Qxb6604098a
