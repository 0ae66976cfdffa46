import Derived.Test.Qxb6604098aLaw3
import Derived.Deep.AppendLies
namespace Go.Proofs.Qxb6604098a
open Go.RowKit
set_option linter.unusedVariables false
set_option linter.unusedSimpArgs false
attribute [local go_sem ↓] Go.wp_at_zero Go.wp_at_succ

/-- The slice value v, of the call's own, holds the bytes xs. -/
def Own (w : World) (base : Nat) (v : Value) (xs : List Int) : Prop := w.ownsRow base 5 1 v xs.length (xs.map (Value.int .u8))

theorem Own.nil (w : World) (base : Nat) : Own w base (.slice none 0 0) [] := World.ownsRow_nil w base 5 1
theorem Own.alloc {w : World} {base : Nat} {v : Value} {xs : List Int} (h : Own w base v xs) (o : Obj) : Own (w.alloc o) base v xs := World.ownsRow.alloc h o
/-- Its bytes, as a walk reads them. -/
theorem Own.bytes {w : World} {base : Nat} {ao : Option Addr} {n c : Nat} {xs : List Int} (h : Own w base (.slice ao n c) xs) (hn : n = xs.length) : ∃ b, IsBytes w ao n b 0 (fun i => xs.getD i 0) ∧ (0 < n → base ≤ b) := by
  subst hn
  rcases h.2 with ⟨h1, h2⟩ | ⟨g, cap, cur, h1, h2, h3, h4, h5, h6, h7⟩
  · exact ⟨0, ⟨fun h => by omega, fun i hi => by omega⟩, fun h => by omega⟩
  · simp only [Value.slice.injEq] at h1
    obtain ⟨rfl, _, rfl⟩ := h1
    refine ⟨g, ⟨fun _ => rfl, fun i hi => ?_⟩, fun _ => h2⟩
    rw [cell_of_row w g (0 + i) cur 5 (0, 0) h3]
    have : (cur.toList.take (xs.length * 1))[i]? = (xs.map (Value.int .u8))[i]? := by rw [h7]
    rw [List.getElem?_take, if_pos (by omega)] at this
    simp only [Nat.zero_add]
    rw [← Array.getElem?_toList, this]
    simp [hi]

theorem wpList_append_bytes {w : World} {ops : Array Oper} {rest : List Oper} {o : Oper} {a : Act} {Q : Exit → Act → World → Prop} (hgd : o.guard = none) (s x : Operand)
    (ho : o.op = .call { callee := .builtin .append, args := #[s, x], argTypes := #[22, 22] }) (base : Nat) (ao : Option Addr) (n c : Nat) (xs : List Int) (hn : n = xs.length) (hs : a.eval s = .slice ao n c) (hown : Own w base (.slice ao n c) xs)
    (ax : Option Addr) (m cx b off : Nat) (Y : Nat → Int) (hx : a.eval x = .slice ax m cx) (hY : IsBytes w ax m b off Y) (hbd : n + m ≤ 4194304) (hbase : base ≤ w.heap.size)
    (h : ∀ ao' c' w', Own w' base (.slice ao' (n + m) c') (xs ++ (List.range m).map Y) → Below base w w' → wpList Try.prog ops Q rest (a.put o.dst (.slice ao' (n + m) c')) w') :
    wpList Try.prog ops Q (o :: rest) a w := by
  obtain ⟨i0, hi0, hz0, hz1, hz2⟩ := info_parts info5
  rcases Nat.eq_zero_or_pos m with rfl | hm
  · refine wpList_plain hgd fun K hK => ?_
    have hcap : n ≤ c := by
      rcases hown.2 with ⟨h1, h2⟩ | ⟨g, cap, cur, h1, h2, h3, h4, h5, h6, h7⟩
      · simp only [Value.slice.injEq] at h1; omega
      · simp only [Value.slice.injEq] at h1; omega
    have hr1 : ∀ ad : Addr, (storeCells ad [] 0).run Try.prog w = .ok () w := fun _ => rfl
    have hrun : (Builtin.append_ #[22, 22] o.type #[.slice ao n c, .slice ax 0 cx]).run Try.prog w = .ok (.slice ao n c) w := by
      cases ao <;> cases ax <;> simp [Builtin.append_, run_underlying Try.underlying22, sizeOf, typeInfo, hi0, Builtin.lenOf, Builtin.firstCells, loadCells, loadCellsFrom, hcap, storeCells]
    unfold Oper.wp
    simp [execOp, ho, resolve, invoke, builtin, hs, hx, hrun, Result.andThen]
    exact hK _ _ (h ao c w (by simpa using hown) (Below.refl _ _))
  · obtain rfl := hY.1 hm
    refine wpList_append_lies _ hgd s x 22 ho base 5 i0 (.int .u8 0) 1 1 Try.underlying22 hi0 hz0 hz1 hz2 rfl (by decide) (.slice ao n c) n (xs.map (Value.int .u8)) hs (by rw [hn] at hown ⊢; exact hown) ⟨b, off, none⟩ m cx (bl Y m) hx (by simp [bl_length]) (fun j u hu => ?_) (fun u hu => bl_one hu) hm (by unfold maxLen; omega) (by omega) hbase w.heap.size rfl ?_
    · have hj : j < m := by have := (List.getElem?_eq_some_iff.1 hu).1; rwa [bl_length] at this
      rw [bl_get _ _ _ hj] at hu
      rw [Addr.add_mid, hY.2 j hj]; exact hu
    · intro g cap w' h1 h2 h3 h4
      refine h _ _ w' ?_ ?_
      · have e1 : (xs ++ (List.range m).map Y).length = n + m := by simp [hn]
        have e2 : (xs ++ (List.range m).map Y).map (Value.int .u8) = xs.map (Value.int .u8) ++ bl Y m := by simp [bl, Function.comp_def]
        unfold Own
        rw [e1, e2]; exact h1
      · refine ⟨h2.os, h2.tape, h2.output, h2.size, fun k hk => h2.block k (by omega) (fun e => ?_)⟩
        have := (hown.lt k e.symm).1
        omega

/-- One byte, escaped where it must be. -/
def qb (c : Int) : List Int := if c = 34 ∨ c = 92 then [92, c] else [c]
def qs (C : Nat → Int) (n : Nat) : List Int := (List.range n).flatMap fun i => qb (C i)
theorem qs_succ (C : Nat → Int) (n : Nat) : qs C (n + 1) = qs C n ++ qb (C n) := by simp [qs, List.range_succ]
theorem qb_length (c : Int) : 1 ≤ (qb c).length ∧ (qb c).length ≤ 2 := by unfold qb; split <;> simp
theorem qs_length (C : Nat → Int) (n : Nat) : n ≤ (qs C n).length ∧ (qs C n).length ≤ 2 * n := by
  induction n with
  | zero => simp [qs]
  | succ n ih => rw [qs_succ, List.length_append]; have := qb_length (C n); omega
/-- What appendQuoted leaves. -/
def QAns (w : World) (base : Nat) (xs ys : List Int) (e : Ending) (w' : World) : Prop :=
  ∃ ao c, e = .returned (.slice ao (xs.length + ys.length) c) ∧ Own w' base (.slice ao (xs.length + ys.length) c) (xs ++ ys) ∧ Below base w w'

theorem one_byte (w : World) (z : Int) : IsBytes (w.alloc (.cells #[.int .u8 z] 5)) (some ⟨w.heap.size, 0, none⟩) 1 w.heap.size 0 (fun _ => z) :=
  ⟨fun _ => rfl, fun i hi => by
    obtain rfl : i = 0 := by omega
    exact (Blk.new w 5 [.int .u8 z]).cell 0⟩

set_option maxHeartbeats 1000000 in
theorem appendQuoted_any (ao a1 : Option Addr) (c l1 c1 base b1 o1 : Nat) (xs : List Int) (C : Nat → Int) (w : World) (hown : Own w base (.slice ao xs.length c) xs) (hC : IsBytes w a1 l1 b1 o1 C) (hb1 : 0 < l1 → b1 < base) (hbase : base ≤ w.heap.size)
    (hbd : xs.length + 2 * l1 + 2 ≤ 4194304) :
    Calls Try.prog 12 #[.slice ao xs.length c, .slice a1 l1 c1] w (QAns w base xs (34 :: (qs C l1 ++ [34]))) := by
  go_enter Try.func12, Try.ntmps12
  go_wp2_with (at_builtin; refine wpList_append_bytes (by rfl) (.tmp 7) (.tmp 8) (by rfl) base ao xs.length c xs rfl (by rfl) (hown.alloc _) _ 1 1 w.heap.size 0 (fun _ => 34) (by rfl) (one_byte w 34) (by omega) (by simp; omega) ?_; intro ao1 c1' w1 hown1 hb1')
  have hB1 : Below base w w1 := ((Below.refl _ w).alloc hbase _).trans hb1'
  have hown1' : Own w1 base (.slice ao1 (xs.length + 1) c1') (xs ++ (34 :: qs C 0)) := by simpa [qs] using hown1
  clear hown1 hb1' hown
  go_loopg [0, 5] l1 (fun k dn jn wr => ∃ (j N : Nat) (ao : Option Addr) (c : Nat), j ≤ l1 ∧ k = l1 - j ∧ dn = .slice ao N c ∧ jn = .int .i64 (j : Int) ∧ N = (xs ++ (34 :: qs C j)).length ∧ Own wr base (.slice ao N c) (xs ++ (34 :: qs C j)) ∧ base ≤ wr.heap.size ∧ Below base w wr)
  case atStart => exact ⟨0, xs.length + 1, ao1, c1', by omega, rfl, rfl, rfl, by simp [qs], hown1', by have := hB1.size; omega, hB1⟩
  case round =>
    clear hown1' hB1
    obtain ⟨j, N, ao2, c2, hj, rfl, rfl, rfl, hN, hO, hbw, hBw⟩ := hrel
    have HN : Hid (N = (xs ++ (34 :: qs C j)).length) := hN
    have hNb : N ≤ xs.length + 1 + 2 * j := by rw [hN]; have := (qs_length C j).2; simp; omega
    clear hN
    by_cases hlt : j < l1
    · obtain rfl := hC.1 (by omega)
      have hc : wr.cell? ⟨b1, o1 + j, none⟩ = some (.int .u8 (C j)) := (hBw.cell (p := ⟨b1, o1 + j, none⟩) (hb1 (by omega))).trans (hC.2 j hlt)
      have hl0 : (0 : Int) ≤ (j : Int) := by omega
      have hl1 : (j : Int) < (l1 : Int) := by omega
      by_cases hq : C j = 34 ∨ C j = 92
      · have HQ : Hid (qs C (j + 1) = qs C j ++ [92, C j]) := by rw [qs_succ, qb, if_pos hq]; rfl
        have HC : Hid (∃ z, z = C j) := ⟨_, rfl⟩
        rcases hq with hq | hq
        all_goals
          go_wp2_with (first | (at_builtin; refine wpList_append_bytes (by rfl) (.tmp 26) (.tmp 27) (by rfl) base ao2 N c2 _ HN.out (by rfl) (hO.alloc _) _ 1 1 wr.heap.size 0 (fun _ => 92) (by rfl) (one_byte wr 92) (by omega) (by simp; omega) ?_; intro ao3 c3 w3 hown3 hb3) | (at_builtin; refine wpList_append_bytes (by rfl) (.tmp 29) (.tmp 31) (by rfl) base ao3 (N + 1) c3 _ (by have := HN.out; simp at this ⊢; omega) (by rfl) (hown3.alloc _) _ 1 1 w3.heap.size 0 (fun _ => C j) (by first | rfl | (simp [*])) (by first | exact one_byte w3 (C j) | (rw [hq]; exact one_byte w3 _)) (by omega) (by have := hb3.size; simp at *; omega) ?_; intro ao4 c4 w4 hown4 hb4))
          have hs3 := hb3.size
          have hs4 := hb4.size
          simp at hs3 hs4
          go_roundg (l1 - (j + 1))
          case measure => omega
          case rel =>
            refine ⟨j + 1, N + 1 + 1, ao4, c4, by omega, rfl, rfl, by go_num, by rw [HQ.out]; have := HN.out; simp at this ⊢; omega, ?_, by omega, ?_⟩
            · rw [HQ.out]; simpa using hown4
            · exact ((hBw.alloc hbw _).trans hb3).trans (((Below.refl _ w3).alloc (by omega) _).trans hb4)
      · have HQ : Hid (qs C (j + 1) = qs C j ++ [C j]) := by rw [qs_succ, qb, if_neg hq]; rfl
        have h1 : (C j == 34) = false := by simp; omega
        have h2 : (C j == 92) = false := by simp; omega
        clear hq
        go_wp2_with (first | (at_builtin; refine wpList_append_bytes (by rfl) (.tmp 29) (.tmp 31) (by rfl) base ao2 N c2 _ HN.out (by rfl) (hO.alloc _) _ 1 1 wr.heap.size 0 (fun _ => C j) (by rfl) (one_byte wr (C j)) (by omega) (by simp; omega) ?_; intro ao4 c4 w4 hown4 hb4))
        have hs4 := hb4.size
        simp at hs4
        go_roundg (l1 - (j + 1))
        case measure => omega
        case rel =>
          refine ⟨j + 1, N + 1, ao4, c4, by omega, rfl, rfl, by go_num, by rw [HQ.out]; have := HN.out; simp at this ⊢; omega, ?_, by omega, ?_⟩
          · rw [HQ.out]; simpa using hown4
          · exact (hBw.alloc hbw _).trans hb4
    · obtain rfl : j = l1 := by omega
      go_wp2_with (first | (at_builtin; refine wpList_append_bytes (by rfl) (.tmp 33) (.tmp 34) (by rfl) base ao2 N c2 _ HN.out (by rfl) (hO.alloc _) _ 1 1 wr.heap.size 0 (fun _ => 34) (by rfl) (one_byte wr 34) (by omega) (by simp; omega) ?_; intro ao4 c4 w4 hown4 hb4))
      go_ret
      have hlen : N + 1 = xs.length + (34 :: (qs C j ++ [34])).length := by have := HN.out; simp at this ⊢; omega
      refine ⟨ao4, c4, ?_, ?_, (hBw.alloc hbw _).trans hb4⟩
      · rw [← hlen]; rfl
      · rw [← hlen]; simpa using hown4

end Go.Proofs.Qxb6604098a
