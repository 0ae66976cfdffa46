import Derived.Test.Qxb6604013aAdd
import Derived.Test.Qxb6604013aMatch
namespace Go.Proofs.Qxb6604013a
open Go.RowKit
set_option linter.unusedVariables false
set_option linter.unusedSimpArgs false
attribute [local go_sem ↓] Go.wp_at_zero Go.wp_at_succ

set_option maxHeartbeats 400000 in
theorem madd_none (Mb : Nat) (aT a1 : Option Addr) (lT cT c1 : Nat) (w : World) :
    Calls Try.prog 11 #[.pointer (some ⟨Mb, 0, none⟩), .agg #[.slice aT lT cT, .slice a1 0 c1]] w fun e w' => e = .returned (.slice none 0 0) ∧ Below w.heap.size w w' := by
  go_enter Try.func11, Try.ntmps11
  go_wp2_with (go_at_call 21; refine (add_none _ _ _ _ _ _ _).mono ?_; rintro e w1 ⟨rfl, hb1⟩)
  go_ret
  exact ⟨rfl, ((Below.refl _ w).alloc (Nat.le_refl _) _).trans (hb1.mono (by simp))⟩

theorem AddAns.shift {w w0 w' : World} {Mb N lT n : Nat} {M : List Value} {ckT ckR : List Ck} {R : Nat → RunZ} {B : Nat → Int} {r : Ending} (h : AddAns w0 Mb N lT n M ckT ckR R B r w') (hx : Ex (fun _ => False) w w0)
    {hvT hvR : Value} {pT pR : Nat} (hAT : Arena w N 22 5 1 hvT pT ckT) (hAR : Arena w N 37 57 4 hvR pR ckR) : AddAns w Mb N lT n M ckT ckR R B r w' := by
  obtain ⟨hvT', pT', ckT', hvR', pR', ckR', gt, kt, gr, kr, A, h1, h2, h3, h4, h5, h6, h7, h8, h9, h10, h11, h12⟩ := h
  refine ⟨hvT', pT', ckT', hvR', pR', ckR', gt, kt, gr, kr, A, h1, h2, h3, h4, h5, h6, h7, h8, h9, ?_, ?_, ?_⟩
  · exact hx.comp h10 (fun x _ h => h.elim) (fun x hx' _ h => by
      rcases h with h | h | h | h | h
      · exact .inl h
      · exact .inr (.inl (h.backE hx (fun h => h) hx'))
      · exact .inr (.inr (.inl (h.backE hx (fun h => h) hx')))
      · exact .inr (.inr (.inr (.inl h)))
      · exact .inr (.inr (.inr (.inr h))))
  · intro c hc hce o ho
    rw [h11 c hc hce o ho]
    obtain ⟨_, ⟨K, hK, _⟩, _⟩ := hAT.chunk c hc
    rw [hce] at hK
    exact World.cell?_of_block (w := w) (w' := w0) (a := ⟨gt, o, none⟩) (hx.block gt hK.lt (fun h => h))
  · intro c hc hce o ho
    rw [h12 c hc hce o ho]
    obtain ⟨_, ⟨K, hK, _⟩, _⟩ := hAR.chunk c hc
    rw [hce] at hK
    exact World.cell?_of_block (w := w) (w' := w0) (a := ⟨gr, o, none⟩) (hx.block gr hK.lt (fun h => h))

set_option maxHeartbeats 400000 in
theorem madd_some (Mb N lT cT n gp bT oT : Nat) (aT : Option Addr) (M : List Value) (ckT ckR : List Ck) (hvT hvR : Value) (pT pR : Nat) (R : Nat → RunZ) (B : Nat → Int) (w : World)
    (hn0 : 0 < n) (hn : n ≤ 65536) (hlT : lT ≤ 1048576) (hM : Blk w Mb 36 M) (hM0 : M[0]? = some hvT) (hM1 : M[1]? = some (.int .i64 (pT : Int))) (hM2 : M[2]? = some hvR) (hM3 : M[3]? = some (.int .i64 (pR : Int)))
    (hAT : Arena w N 22 5 1 hvT pT ckT) (hAR : Arena w N 37 57 4 hvR pR ckR) (hMN : Mb < N) (hNs : N ≤ w.heap.size) (hcT : ckT.length ≤ 1048576) (hcR : ckR.length ≤ 1048576)
    (hB : IsBytes w aT lT bT oT B) (hbT : 0 < lT → bT < N ∧ bT ≠ Mb) (hgp : Blk w gp 72 (rl R n)) (hgpM : gp ≠ Mb) (hV : Valid lT n R) :
    Calls Try.prog 11 #[.pointer (some ⟨Mb, 0, none⟩), .agg #[.slice aT lT cT, .slice (some ⟨gp, 0, none⟩) n n]] w (AddAns w Mb N lT n M ckT ckR R B) := by
  have hx0 : ∀ o, Ex (fun _ => False) w (w.alloc o) := fun o => (Ex.refl _ w).alloc o
  go_enter Try.func11, Try.ntmps11
  go_wp2_with (go_at_call 21; refine (add_some Mb N lT cT n gp bT oT aT M ckT ckR hvT hvR pT pR R B _ hn0 hn hlT (hM.alloc _) hM0 hM1 hM2 hM3 (hAT.ex (hx0 _) (fun k hk => hk.elim)) (hAR.ex (hx0 _) (fun k hk => hk.elim)) hMN (by simp; omega) hcT hcR (hB.below ((Below.refl _ w).alloc (Nat.le_refl _) _)) hbT (hgp.alloc _) hgpM hV).mono ?_; intro e w1 hans; have hans2 := hans.shift (hx0 _) hAT hAR; obtain ⟨v, hv⟩ : ∃ v, e = .returned v := ⟨_, hans.choose_spec.choose_spec.choose_spec.choose_spec.choose_spec.choose_spec.choose_spec.choose_spec.choose_spec.choose_spec.choose_spec.1⟩; subst hv)
  go_ret
  exact hans2


/-- What a clone of bytes leaves. -/
def CloneB (w : World) (len : Nat) (B : Nat → Int) (e : Ending) (w' : World) : Prop :=
  ∃ a c b, e = .returned (.slice a len c) ∧ IsBytes w' a len b 0 B ∧ (0 < len → w.heap.size ≤ b ∧ Blk w' b 5 (bl B len)) ∧ (a = none → len = 0 ∧ c = 0) ∧ Below w.heap.size w w'
def CloneR (w : World) (n : Nat) (R : Nat → RunZ) (e : Ending) (w' : World) : Prop :=
  ∃ a c b, e = .returned (.slice a n c) ∧ IsRuns w' a n b 0 R ∧ (0 < n → w.heap.size ≤ b ∧ Blk w' b 69 (rl R n)) ∧ (a = none → n = 0 ∧ c = 0) ∧ Below w.heap.size w w'
theorem cloneBytes_any (a : Option Addr) (len cap b off : Nat) (B : Nat → Int) (w : World) (hlen : len ≤ 1048576) (hn : a = none → len = 0 ∧ cap = 0) (hB : IsBytes w a len b off B) :
    Calls Try.prog 9 #[.slice a len cap] w (CloneB w len B) := by
  cases a with
  | none =>
    obtain ⟨rfl, rfl⟩ := hn rfl
    refine (cloneBytes_nil w).mono ?_
    rintro e w' ⟨rfl, rfl⟩
    exact ⟨none, 0, 0, rfl, ⟨fun h => by omega, fun i hi => by omega⟩, fun h => by omega, fun _ => ⟨rfl, rfl⟩, Below.refl _ _⟩
  | some ad =>
    refine (cloneBytes_some ad len cap b off B w hlen hB).mono ?_
    rintro e w' ⟨rfl, h1, h2⟩
    exact ⟨_, _, w.heap.size, rfl, h1.bytes, fun _ => ⟨Nat.le_refl _, h1⟩, (fun h => by cases h), h2⟩
theorem cloneRuns_any (a : Option Addr) (n cap b off : Nat) (R : Nat → RunZ) (w : World) (hlen : n ≤ 65536) (hn : a = none → n = 0 ∧ cap = 0) (hR : IsRuns w a n b off R) :
    Calls Try.prog 10 #[.slice a n cap] w (CloneR w n R) := by
  cases a with
  | none =>
    obtain ⟨rfl, rfl⟩ := hn rfl
    refine (cloneRuns_nil w).mono ?_
    rintro e w' ⟨rfl, rfl⟩
    exact ⟨none, 0, 0, rfl, ⟨fun h => by omega, fun i hi => by omega⟩, fun h => by omega, fun _ => ⟨rfl, rfl⟩, Below.refl _ _⟩
  | some ad =>
    refine (cloneRuns_some ad n cap b off R w hlen hR).mono ?_
    rintro e w' ⟨rfl, h1, h2⟩
    exact ⟨_, _, w.heap.size, rfl, h1.runs (fun i hi => (hR.2 i hi).2), fun _ => ⟨Nat.le_refl _, h1⟩, (fun h => by cases h), h2⟩

theorem IsBytes.ex {w w' : World} {a : Option Addr} {len b off : Nat} {B : Nat → Int} {S : Nat → Prop} (h : IsBytes w a len b off B) (hx : Ex S w w') (hS : 0 < len → ¬ S b) : IsBytes w' a len b off B :=
  ⟨h.1, fun i hi => (World.cell?_of_block (w := w) (w' := w') (a := ⟨b, off + i, none⟩) (hx.block b (h.lt (by omega)) (hS (by omega)))).trans (h.2 i hi)⟩
theorem IsRuns.ex {w w' : World} {a : Option Addr} {n b off : Nat} {R : Nat → RunZ} {S : Nat → Prop} (h : IsRuns w a n b off R) (hx : Ex S w w') (hS : 0 < n → ¬ S b) : IsRuns w' a n b off R :=
  ⟨h.1, fun i hi => ⟨fun q v hv => (World.cell?_of_block (w := w) (w' := w') (a := ⟨b, off + i * 4 + q, none⟩) (hx.block b (h.lt (by omega)) (hS (by omega)))).trans ((h.2 i hi).1 q v hv), (h.2 i hi).2⟩⟩

/-- The memory with nothing in it. -/
def mem0 : List Value := [.slice none 0 0, .int .i64 0, .slice none 0 0, .int .i64 0, .slice none 0 0, .slice none 0 0]
theorem arena0 (w : World) (N he e size : Nat) : Arena w N he e size (.slice none 0 0) 0 [] :=
  ⟨World.ownsRow_nil w N he 1, fun c hc => by simp at hc, by simp, by simp⟩

/-- A line that add has just made stands for its packed line. -/
theorem lineIs_of {w' : World} {lT n gr kr gt kt : Nat} {A : Nat → Nat} {R : Nat → RunZ} {B : Nat → Int} (hV : Valid lT n R) (h8 : ∀ i, i < lT → w'.cell? ⟨gt, kt + i, none⟩ = some (.int .u8 (B i)))
    (h9 : ∀ i, i < n → w'.rangeAt gr ((kr + i) * 4) (rcell gt A R i) ∧ (0 < rlen R i → A i = kt + (before R i).toNat)) : LineIs w' gr (kr * 4) n gt A R B := by
  intro i hi
  obtain ⟨h1, h2⟩ := h9 i hi
  refine ⟨World.block_lt_of_cell? w' ⟨gr, _, none⟩ (h1 0 _ rfl), by rw [show kr * 4 + i * 4 = (kr + i) * 4 by omega]; exact h1, fun k hk => ?_⟩
  have hb := before_nonneg hV i hi
  have hv := (hV i hi).2
  have hk' : (before R i).toNat + k < lT := by unfold rlen at hk; omega
  have h3 := h8 _ hk'
  rw [h2 (by omega), Nat.add_assoc]
  exact ⟨World.block_lt_of_cell? w' ⟨gt, _, none⟩ h3, h3⟩

set_option maxHeartbeats 400000 in
theorem law3_big (a0 a1 : Option Addr) (l0 c0 l1 c1 : Nat) (w : World) (h : 1048576 < l0 + 16 * l1 ∨ 65536 < l1) :
    Calls Try.prog 3 #[.slice a0 l0 c0, .slice a1 l1 c1] w fun e w' => e = .returned (.bool true) ∧ w' = w := by
  by_cases hb : l0 + l1 ≤ 1048576
  · have h0 : l0 ≤ 1048576 := by omega
    have hd : decide (1048576 < (l0 : Int)) = false := decide_eq_false (by omega)
    by_cases h1 : 65536 < l1
    · go_enter Try.func3, Try.ntmps3
      go_wp2_with (go_at_call 7; refine (bytes7_yes _ _ _ _ _ _ _ hb).mono ?_; rintro e w1 ⟨rfl, rfl⟩)
      go_ret
      exact ⟨rfl, rfl⟩
    · go_enter Try.func3, Try.ntmps3
      go_wp2_with (go_at_call 7; refine (bytes7_yes _ _ _ _ _ _ _ hb).mono ?_; rintro e w1 ⟨rfl, rfl⟩)
      go_ret
      exact ⟨rfl, rfl⟩
  · go_enter Try.func3, Try.ntmps3
    go_wp2_with (go_at_call 7; refine (bytes7_no _ _ _ _ _ _ _ (by omega)).mono ?_; rintro e w1 ⟨rfl, rfl⟩)
    go_ret
    exact ⟨rfl, rfl⟩

set_option maxHeartbeats 1000000 in
theorem law3_main (a0 a1 : Option Addr) (l0 c0 l1 c1 bT oT bR oR : Nat) (B : Nat → Int) (R : Nat → RunZ) (w : World) (h1 : l0 + 16 * l1 ≤ 1048576) (h2 : l1 ≤ 65536) (hn0 : a0 = none → l0 = 0 ∧ c0 = 0) (hn1 : a1 = none → l1 = 0 ∧ c1 = 0)
    (hB : IsBytes w a0 l0 bT oT B) (hR : IsRuns w a1 l1 bR oR R) :
    Calls Try.prog 3 #[.slice a0 l0 c0, .slice a1 l1 c1] w fun e w' => e = .returned (.bool true) ∧ Below w.heap.size w w' := by
  have h0 : l0 ≤ 1048576 := by omega
  have hd : decide (1048576 < (l0 : Int)) = false := decide_eq_false (by omega)
  go_enter Try.func3, Try.ntmps3
  go_wp2_with (first | (go_at_call 7; refine (bytes7_yes _ _ _ _ _ _ _ (by omega)).mono ?_; rintro e w1 ⟨rfl, rfl⟩) | (go_at_call 8; refine (valid_any _ _ _ _ _ _ bR oR R _ h0 (by omega) hR).mono ?_; rintro e w1 ⟨⟨t, rfl, hV⟩, rfl⟩; have HV : Hid _ := hV; clear hV; cases t))
  · go_ret
    exact ⟨rfl, Below.refl _ _⟩
  · go_wp2_with (first | (go_at_call 9; refine (cloneBytes_any _ _ _ bT oT B _ h0 hn0 hB).mono ?_; rintro e w2 ⟨a2, c2, b2, rfl, hB2, hO2, hN2, hb2⟩) | (go_at_call 10; refine (cloneRuns_any _ _ _ bR oR R _ h2 hn1 (hR.below hb2)).mono ?_; rintro e w3 ⟨a3, c3, b3, rfl, hR3, hO3, hN3, hb3⟩) | (go_at_call 12; refine (pack_any _ _ _ _ _ _ b3 0 R _ h2 (hR3.below ((Below.refl _ w3).alloc (Nat.le_refl _) _))).mono ?_; rintro e w4 ⟨rfl, hg4, hb4⟩))
    have hs2 := hb2.size
    have hs3 := hb3.size
    have hs4 := hb4.size
    have hMb : Blk w4 w3.heap.size 36 mem0 := (Blk.new w3 36 mem0).below hb4 (by simp)
    have hB34 : Below w3.heap.size w3 w4 := ((Below.refl _ w3).alloc (Nat.le_refl _) _).trans (hb4.mono (by simp))
    have hB4 : IsBytes w4 a2 l0 b2 0 B := (hB2.below hb3).below hB34
    have hR4 : IsRuns w4 a3 l1 b3 0 R := hR3.below hB34
    have hg4' : Blk w4 (w3.heap.size + 1 + 1) 72 (rl R l1) := by simpa using hg4
    have hW4 : Below w1.heap.size w1 w4 := (hb2.trans (hb3.mono hs2)).trans (hB34.mono (by omega))
    have hV : Valid l0 l1 R := HV.out trivial
    have hbT4 : 0 < l0 → b2 < w3.heap.size := fun h => by have := hB2.lt h; omega
    have hbR4 : 0 < l1 → b3 < w3.heap.size := fun h => hR3.lt h
    have hsz4 : w3.heap.size + 1 ≤ w4.heap.size := by simp at hs4; omega
    clear hg4 HV hb2 hb3 hb4 hB2 hR3 hO2 hO3 hB hR hB34
    by_cases hl1 : l1 = 0
    · subst hl1
      go_wp2_with (first | (go_at_call 11; refine (madd_none _ _ _ _ _ _ _).mono ?_; rintro e w5 ⟨rfl, hb5⟩) | (go_at_call 13; refine (matches_none _ _ _ _ _ _ _).mono ?_; rintro e w6 ⟨rfl, rfl⟩))
      go_ret
      exact ⟨rfl, hW4.trans (hb5.mono hW4.size)⟩
    · go_wp2_with (first | (go_at_call 11; refine (madd_some w3.heap.size (w3.heap.size + 1) l0 c2 l1 (w3.heap.size + 1 + 1) b2 0 a2 mem0 [] [] (.slice none 0 0) (.slice none 0 0) 0 0 R B _ (by omega) h2 h0 hMb rfl rfl rfl rfl (arena0 _ _ _ _ _) (arena0 _ _ _ _ _) (by omega) hsz4 (by simp) (by simp) hB4 (fun h => by have := hbT4 h; omega) hg4' (by omega) hV).mono ?_; rintro e w5 ⟨hvT', pT', ckT', hvR', pR', ckR', gt, kt, gr, kr, A, rfl, _, _, _, _, ⟨hgt, _⟩, ⟨hgr, _⟩, h8, h9, h10, _, _⟩; have hX5 : Below w3.heap.size w4 w5 := h10.below (by omega) (by rintro k (h | ⟨h, _⟩ | ⟨h, _⟩ | h | h) <;> omega)) | (go_at_call 13; refine (matches_plain gr (kr * 4) l1 gt l0 c2 c3 b2 0 b3 0 A a2 a3 R B _ (by omega) h2 h0 (hB4.belowB hX5 hbT4) (hR4.belowB hX5 hbR4) hV (lineIs_of hV h8 h9)).mono ?_; rintro e w6 ⟨rfl, hb6⟩))
      go_ret
      have hs5 := hX5.size
      exact ⟨rfl, (hW4.trans (hX5.mono (by omega))).trans (hb6.mono (by omega))⟩

theorem law3_any (a0 a1 : Option Addr) (l0 c0 l1 c1 bT oT bR oR : Nat) (B : Nat → Int) (R : Nat → RunZ) (w : World) (hn0 : a0 = none → l0 = 0 ∧ c0 = 0) (hn1 : a1 = none → l1 = 0 ∧ c1 = 0)
    (hB : IsBytes w a0 l0 bT oT B) (hR : IsRuns w a1 l1 bR oR R) :
    Calls Try.prog 3 #[.slice a0 l0 c0, .slice a1 l1 c1] w fun e w' => e = .returned (.bool true) ∧ Below w.heap.size w w' := by
  by_cases h1 : l0 + 16 * l1 ≤ 1048576
  · by_cases h2 : l1 ≤ 65536
    · exact law3_main a0 a1 l0 c0 l1 c1 bT oT bR oR B R w h1 h2 hn0 hn1 hB hR
    · omega
  · refine (law3_big a0 a1 l0 c0 l1 c1 w (.inl (by omega))).mono ?_
    rintro e w' ⟨rfl, rfl⟩
    exact ⟨rfl, Below.refl _ _⟩

end Go.Proofs.Qxb6604013a
