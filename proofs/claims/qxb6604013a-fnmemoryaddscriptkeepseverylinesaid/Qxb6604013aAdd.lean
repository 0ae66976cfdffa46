import Derived.Test.Qxb6604013aAdd0
namespace Go.Proofs.Qxb6604013a
open Go.RowKit
set_option linter.unusedVariables false
set_option linter.unusedSimpArgs false
attribute [local go_sem ↓] Go.wp_at_zero Go.wp_at_succ

set_option maxHeartbeats 2000000 in
theorem add_some (Mb N lT cT n gp bT oT : Nat) (aT : Option Addr) (M : List Value) (ckT ckR : List Ck) (hvT hvR : Value) (pT pR : Nat) (R : Nat → RunZ) (B : Nat → Int) (w : World)
    (hn0 : 0 < n) (hn : n ≤ 65536) (hlT : lT ≤ 1048576) (hM : Blk w Mb 36 M) (hM0 : M[0]? = some hvT) (hM1 : M[1]? = some (.int .i64 (pT : Int))) (hM2 : M[2]? = some hvR) (hM3 : M[3]? = some (.int .i64 (pR : Int)))
    (hAT : Arena w N 22 5 1 hvT pT ckT) (hAR : Arena w N 37 57 4 hvR pR ckR) (hMN : Mb < N) (hNs : N ≤ w.heap.size) (hcT : ckT.length ≤ 1048576) (hcR : ckR.length ≤ 1048576)
    (hB : IsBytes w aT lT bT oT B) (hbT : 0 < lT → bT < N ∧ bT ≠ Mb) (hgp : Blk w gp 72 (rl R n)) (hgpM : gp ≠ Mb) (hV : Valid lT n R) :
    Calls Try.prog 21 #[.pointer (some ⟨Mb, 0, none⟩), .agg #[.slice aT lT cT, .slice (some ⟨gp, 0, none⟩) n n]] w (AddAns w Mb N lT n M ckT ckR R B) := by
  have hnn : ((n : Int) == 0) = false := by simp; omega
  go_enter Try.func21, Try.ntmps21
  go_wp2
  have hD : Blk (w.alloc (.cells #[.slice aT lT cT, .slice (some ⟨gp, 0, none⟩) n n] 43)) w.heap.size 43 [.slice aT lT cT, .slice (some ⟨gp, 0, none⟩) n n] := Blk.new w 43 _
  have hE0 : Ex (fun _ => False) w (w.alloc (.cells #[.slice aT lT cT, .slice (some ⟨gp, 0, none⟩) n n] 43)) := (Ex.refl _ w).alloc _
  have hsz0 : (w.alloc (.cells #[.slice aT lT cT, .slice (some ⟨gp, 0, none⟩) n n] 43)).heap.size = w.heap.size + 1 := by simp
  generalize w.alloc (.cells #[.slice aT lT cT, .slice (some ⟨gp, 0, none⟩) n n] 43) = W0 at hD hE0 hsz0 ⊢
  have hS0 : Hid (box43 w.heap.size (.slice aT lT cT) (.slice (some ⟨gp, 0, none⟩) n n) W0.drew) := hD.drew.box43
  have hM0' := (hM.ex hE0.drew (fun h => h))
  have hAT0 := hAT.ex hE0.drew (fun k hk => hk.elim)
  have hlTi : (0 : Int) ≤ (lT : Int) := by omega
  go_region_held3 (box43 w.heap.size (.slice aT lT cT) (.slice (some ⟨gp, 0, none⟩) n n)) (first | exact hS0.out | with_reducible assumption)
    (first | (go_at_call 27; refine (take27 Mb N lT 8192 pT M hvT ckT _ hM0' hM0 hM1 hAT0 hMN (by show N ≤ W0.heap.size; omega) hcT hlT (by omega) (by omega)).mono ?_; rintro e w1 ⟨hvT', pT', ckT', gt, kt, rfl, hM1a, hAT1, hlen1, hgtN, hin1, hold1, hlow1, hEx1⟩; generalize htb : (if lT = 0 then 0 else kt * 1) = tb; have HTB : Hid ((if lT = 0 then 0 else kt * 1) = tb) := htb; clear htb; have hS1 : box43 w.heap.size (.slice aT lT cT) (.slice (some ⟨gp, 0, none⟩) n n) w1 := (hD.drew.ex hEx1 (by rintro (h | ⟨_, L, hL⟩); omega; exact absurd (hL.type_eq hD.drew) (by decide))).box43))
  rename_i hHeld
  clear hHeld
  have hgtb : ∃ L1, Blk w1 gt 5 L1 ∧ kt + lT ≤ L1.length := by
    obtain ⟨cap, hin⟩ := hin1
    obtain ⟨_, ⟨L, h1, h2⟩, h3, _⟩ := hAT1.chunk _ hin
    exact ⟨L, h1, by have h4 : kt + lT ≤ cap := h3; have h5 : L.length = cap * 1 := h2; omega⟩
  obtain ⟨L1, hL1, hL1l⟩ := hgtb
  have hB1 : IsBytes w1 aT lT bT oT B := ⟨hB.1, fun i hi => by
    have hlt : bT < w.heap.size := hB.lt (by omega)
    have h1 : W0.drew.cell? ⟨bT, oT + i, none⟩ = some (.int .u8 (B i)) := by
      rw [World.cell?_of_block (w := w) (w' := W0.drew) (a := ⟨bT, oT + i, none⟩) (hE0.drew.block bT hlt (fun h => h))]; exact hB.2 i hi
    rw [World.cell?_of_block (w := W0.drew) (w' := w1) (a := ⟨bT, oT + i, none⟩) (hEx1.block bT (by show bT < W0.heap.size; omega) (by rintro (h | ⟨h, _⟩); exact (hbT (by omega)).2 h; have := (hbT (by omega)).1; omega))]
    exact h1⟩
  have htbo : 0 < lT → tb = kt := fun h => by have := HTB.out; rw [if_neg (by omega)] at this; omega
  have HTBO : Hid _ := htbo
  clear htbo
  go_wp2_with (refine wpList_copy_bytes (by rfl) (.tmp 21) (.tmp 23) (by rfl) gt tb kt lT cT aT (by rfl) (by rfl) HTBO.out bT oT B hB1 L1 hL1 hL1l ?_; intro w2 hL2 hEx2; have hS2 : box43 w.heap.size (.slice aT lT cT) (.slice (some ⟨gp, 0, none⟩) n n) w2 := (((hD.drew.ex hEx1 (by rintro (h | ⟨_, L, hL⟩); omega; exact absurd (hL.type_eq hD.drew) (by decide)))).ex hEx2 (fun h => by exact absurd ((hD.drew.ex hEx1 (by rintro (h | ⟨_, L, hL⟩); omega; exact absurd (hL.type_eq hD.drew) (by decide))).type_eq (h ▸ hL1)) (by decide))).box43)
  simp only [Act.put, List.setIfInBounds_toArray, List.set_cons_zero, List.set_cons_succ]
  have hgtM : gt ≠ Mb := by omega
  have hDb : Blk w2 w.heap.size 43 [.slice aT lT cT, .slice (some ⟨gp, 0, none⟩) n n] := by
    have h1 := (hD.drew.ex hEx1 (by rintro (h | ⟨_, L, hL⟩); omega; exact absurd (hL.type_eq hD.drew) (by decide)))
    exact h1.ex hEx2 (h1.ne hL1 (by decide))
  have hEa : Ex (fun b => b = Mb ∨ HdrBlk w N 22 b) w w1 := hE0.drew.comp hEx1 (fun x _ h => h.elim) (fun x hx _ h => h.imp id (fun h => h.backE hE0.drew (fun h => h) hx))
  have hE2 : Ex (fun b => b = Mb ∨ HdrBlk w N 22 b ∨ b = gt) w w2 := hEa.comp hEx2 (fun x _ h => h.imp id .inl) (fun x _ _ h => .inr (.inr h))
  have hM2a : Blk w2 Mb 36 ((M.set 0 hvT').set 1 (.int .i64 ((pT' : Nat) : Int))) := hM1a.ex hEx2 (fun h => hgtM h.symm)
  have hAT2 : Arena w2 N 22 5 1 hvT' pT' ckT' := hAT1.touch hEx2 (by decide) hL1 hL2 (length_splice _ _ _ (by rw [bl_length]; exact hL1l))
  have hAR1 : Arena w1 N 37 57 4 hvR pR ckR := hAR.ex hEa (fun k hk _ hh => by
    rcases hk with rfl | ⟨_, L, hL⟩
    · omega
    · rcases hh.2 with ⟨L', hL'⟩ | ⟨L', hL'⟩ <;> exact absurd (hL.type_eq hL') (by decide))
  have hAR2 : Arena w2 N 37 57 4 hvR pR ckR := hAR1.ex hEx2 (fun k hk _ hh => by
    subst hk
    rcases hh.2 with ⟨L', hL'⟩ | ⟨L', hL'⟩ <;> exact absurd (hL1.type_eq hL') (by decide))
  have hgp1 : Blk w1 gp 72 (rl R n) := hgp.ex hEa (by rintro (h | ⟨_, L, hL⟩); exact hgpM h; exact absurd (hL.type_eq hgp) (by decide))
  have hgp2 : Blk w2 gp 72 (rl R n) := hgp1.ex hEx2 (hgp1.ne hL1 (by decide))
  have hM22 : ((M.set 0 hvT').set 1 (.int .i64 ((pT' : Nat) : Int)))[2]? = some hvR := by simpa using hM2
  have hM23 : ((M.set 0 hvT').set 1 (.int .i64 ((pT' : Nat) : Int)))[3]? = some (.int .i64 (pR : Int)) := by simpa using hM3
  have hsz2 : w.heap.size + 1 ≤ w2.heap.size := by have := hEx1.size; have := hEx2.size; simp at *; omega
  -- what is left of the text's own facts, kept together
  have hK1 : Hid (w1.heap.size ≤ w2.heap.size) := hEx2.size
  have hS2d : Hid (box43 w.heap.size (.slice aT lT cT) (.slice (some ⟨gp, 0, none⟩) n n) w2.drew) := hDb.drew.box43
  clear hS2
  go_region_held3 (box43 w.heap.size (.slice aT lT cT) (.slice (some ⟨gp, 0, none⟩) n n)) (first | exact hS2d.out | with_reducible assumption)
    (first | (go_at_call 28; refine (take28 Mb N n 256 pR _ hvR ckR _ hM2a.drew hM22 hM23 hAR2.drew hMN (by show N ≤ w2.heap.size; omega) hcR (by omega) (by omega) (by omega)).mono ?_; rintro e w3 ⟨hvR', pR', ckR', gr, kr, rfl, hM3a, hAR3, hlen3, hgrN, hin3, hold3, hlow3, hEx3⟩; have hif : (if n = 0 then 0 else kr * 4) = kr * 4 := if_neg (by omega); rw [hif]; clear hif; have hS3 : box43 w.heap.size (.slice aT lT cT) (.slice (some ⟨gp, 0, none⟩) n n) w3 := (hDb.drew.ex hEx3 (by rintro (h | ⟨_, L, hL⟩); omega; exact absurd (hL.type_eq hDb.drew) (by decide))).box43))
  rename_i hHeld
  clear hHeld
  go_wp2
  have hgrb : ∃ L3, Blk w3 gr 57 L3 ∧ (kr + n) * 4 ≤ L3.length := by
    obtain ⟨cap, hin⟩ := hin3
    obtain ⟨_, ⟨L, h1, h2⟩, h3, _⟩ := hAR3.chunk _ hin
    exact ⟨L, h1, by have h4 : kr + n ≤ cap := h3; have h5 : L.length = cap * 4 := h2; omega⟩
  obtain ⟨L3, hL3, hL3l⟩ := hgrb
  have hgp3 : Blk w3 gp 72 (rl R n) := hgp2.drew.ex hEx3 (by rintro (h | ⟨_, L, hL⟩); exact hgpM h; exact absurd (hL.type_eq hgp2.drew) (by decide))
  go_loopg [7, 35] n (fun k p i wr => ∃ (j : Nat) (L : List Value), j ≤ n ∧ k = n - j ∧ p = .int .i32 (before R j) ∧ i = .int .i64 j ∧ Blk wr gr 57 L ∧ L.length = L3.length ∧ LHd L kr gt (tadr R tb) R j ∧
      (∀ o, (o < kr * 4 ∨ (kr + n) * 4 ≤ o) → L[o]? = L3[o]?) ∧ Blk wr gp 72 (rl R n) ∧ Ex (fun b => b = gr) w3 wr)
  case atStart => exact ⟨0, L3, by omega, by omega, rfl, rfl, hL3, rfl, fun i hi => by omega, fun _ _ => rfl, hgp3, Ex.refl _ _⟩
  case round =>
    obtain ⟨j, L, hj, rfl, rfl, rfl, hT, hL, hP, hO, hg, hEx⟩ := hrel
    by_cases hlt : j < n
    · have HR : Hid (wr.rangeAt gp (j * 4) [.int .i32 (R j).1, .int .u32 (R j).2.1, .int .u32 (R j).2.2.1, .int .u8 (R j).2.2.2]) := hg.range _ _ (fun q v hv => by
        have hq : q < 4 := (List.getElem?_eq_some_iff.1 hv).1
        rw [rl_get _ _ _ _ hlt hq]; exact hv)
      obtain ⟨hv1, hv2⟩ := hV j hlt
      have hbf : 0 ≤ before R j := by
        unfold before
        split
        · omega
        · have := (hV (j - 1) (by omega)).1
          have h2 : ∀ m, m < n → 0 ≤ before R m := by
            intro m
            induction m with
            | zero => intro _; simp [before]
            | succ m ih => intro hm; rw [before_succ]; exact Int.le_trans (ih (by omega)) (hV m (by omega)).1
          have := h2 (j - 1) (by omega)
          omega
      obtain ⟨f, hf⟩ : ∃ f : Nat, before R j = (f : Int) := ⟨(before R j).toNat, by omega⟩
      obtain ⟨e, he⟩ : ∃ e : Nat, (R j).1 = (e : Int) := ⟨((R j).1).toNat, by omega⟩
      have hfe : f ≤ e := by omega
      have heT : e ≤ lT := by omega
      have hi0 : (0 : Int) ≤ (f : Int) := by omega
      have hi1 : (f : Int) ≤ (e : Int) := by omega
      have hi2 : (e : Int) ≤ (lT : Int) := by omega
      have hi3 : (0 : Int) ≤ (j : Int) := by omega
      have hi4 : (j : Int) < (n : Int) := by omega
      have HP : Hid (LHd L kr gt (tadr R tb) R j) := hP
      have HO : Hid (∀ o, (o < kr * 4 ∨ (kr + n) * 4 ≤ o) → L[o]? = L3[o]?) := hO
      clear hP hO hv1 hv2 hbf
      by_cases hef : e = f
      · subst hef
        have hTd := ((hT.alloc (.cells #[.int .i32 (e : Int), .int .u32 (R j).2.1, .int .u32 (R j).2.2.1, .int .u8 (R j).2.2.2] 72))).four (kr * 4 + j * 4) (by omega)
        obtain ⟨⟨v0, q0⟩, ⟨v1, q1⟩, ⟨v2, q2⟩, ⟨v3, q3⟩, qf⟩ := hTd
        have hDn : Blk (wr.alloc (.cells #[.int .i32 (e : Int), .int .u32 (R j).2.1, .int .u32 (R j).2.2.1, .int .u8 (R j).2.2.2] 72)) wr.heap.size 72 [.int .i32 (e : Int), .int .u32 (R j).2.1, .int .u32 (R j).2.2.1, .int .u8 (R j).2.2.2] := Blk.new wr 72 _
        have hS4 : Hid (at4 (wr.alloc (.cells #[.int .i32 (e : Int), .int .u32 (R j).2.1, .int .u32 (R j).2.2.1, .int .u8 (R j).2.2.2] 72)).drew wr.heap.size 0 ((e : Int), (R j).2)) := ⟨hDn.drew.cell 0, hDn.drew.cell 1, hDn.drew.cell 2, hDn.drew.cell 3⟩
        have hneD : wr.heap.size ≠ gr := by have := hT.lt; omega
        clear hDn
        go_wp2_with (first | (refine wpList_load_blk (by rfl) 72 (.tmp 38) (by rfl) gp (j * 4) (by rfl) [.int .i32 (R j).1, .int .u32 (R j).2.1, .int .u32 (R j).2.2.1, .int .u8 (R j).2.2.2] _ HR.out Try.underlying72 rfl size72 ?_))
        have hT4 := hT.alloc (.cells #[.int .i32 (e : Int), .int .u32 (R j).2.1, .int .u32 (R j).2.2.1, .int .u8 (R j).2.2.2] 72)
        have hg4 := hg.alloc (.cells #[.int .i32 (e : Int), .int .u32 (R j).2.1, .int .u32 (R j).2.2.1, .int .u8 (R j).2.2.2] 72)
        have hEx4 := hEx.alloc (.cells #[.int .i32 (e : Int), .int .u32 (R j).2.1, .int .u32 (R j).2.2.1, .int .u8 (R j).2.2.2] 72)
        generalize wr.alloc (.cells #[.int .i32 (e : Int), .int .u32 (R j).2.1, .int .u32 (R j).2.2.1, .int .u8 (R j).2.2.2] 72) = W4 at hT4 hg4 hEx4 hS4 q0 q1 q2 q3 qf ⊢
        go_region_held3 (at4 · wr.heap.size 0 ((e : Int), (R j).2)) (first | exact hS4.out | with_reducible exact at4_set4d hS4.out hneD) (fail)
        have hrc : rcell gt (tadr R tb) R j = [.slice (some ⟨gt, tb, none⟩) 0 0, .int .u32 (R j).2.1, .int .u32 (R j).2.2.1, .int .u8 (R j).2.2.2] := by
          unfold rcell tadr rlen
          rw [he, hf]
          first
            | (rw [if_pos rfl]; simp)
            | (rw [if_neg (by omega)]; simp <;> omega)
        have hT5 := hT4.stored (kr * 4 + j * 4) (rcell gt (tadr R tb) R j) (by rw [rcell_length]; omega)
        have hg5 : Blk (W4.setCells gr (kr * 4 + j * 4) (rcell gt (tadr R tb) R j)) gp 72 (rl R n) := hg4.stored_other (hg4.ne hT4 (by decide)) _ _
        have hEx5 : Ex (fun b => b = gr) w3 (W4.setCells gr (kr * 4 + j * 4) (rcell gt (tadr R tb) R j)) := hEx4.setCells (.inl rfl) _ _
        have hc5 : ∀ o, (o < kr * 4 ∨ (kr + n) * 4 ≤ o) → (splice L (kr * 4 + j * 4) (rcell gt (tadr R tb) R j))[o]? = L3[o]? := fun o ho => by
          rw [splice_get _ _ _ (by rw [rcell_length]; omega), rcell_length, ← HO.out o ho]
          rcases ho with ho | ho
          · rw [if_pos (by omega)]
          · rw [if_neg (by omega), if_neg (by omega)]
        have hx5 : (W4.setCells gr (kr * 4 + j * 4) (rcell gt (tadr R tb) R j)).cell? ⟨wr.heap.size, 0, none⟩ = some (.int .i32 (e : Int)) := by
          rw [World.cell?_setCells_out _ _ _ _ _ (fun h => absurd h hneD)]; exact hS4.out.1
        rw [hrc] at hT5 hg5 hEx5 hx5 hc5
        have HF : Hid _ := And.intro hT5 (And.intro hg5 (And.intro hEx5 (And.intro hc5 hrc)))
        have hx6 : ((((W4.setCell ⟨gr, kr * 4 + j * 4, none⟩ (.slice (some ⟨gt, tb, none⟩) 0 0)).setCell ⟨gr, kr * 4 + j * 4 + 1, none⟩ (.int .u32 (R j).2.1)).setCell ⟨gr, kr * 4 + j * 4 + 2, none⟩ (.int .u32 (R j).2.2.1)).setCell ⟨gr, kr * 4 + j * 4 + 3, none⟩ (.int .u8 (R j).2.2.2)).cell? ⟨wr.heap.size, 0, none⟩ = some (.int .i32 (e : Int)) := hx5
        clear hT5 hg5 hEx5 hc5 hrc hx5 hT4 hg4 hEx4 hT hg hEx q0 q1 q2 q3 qf HR
        go_wp2
        go_roundg (n - (j + 1))
        case measure => omega
        case rel => exact ⟨j + 1, _, by omega, rfl, by rw [before_succ, he], by go_num, HF.out.1, by rw [length_splice _ _ _ (by simp; omega)]; exact hL, by rw [← HF.out.2.2.2.2]; exact LHd.step HP.out (by omega), HF.out.2.2.2.1, HF.out.2.1, HF.out.2.2.1.drew⟩
      · have hTd := ((hT.alloc (.cells #[.int .i32 (e : Int), .int .u32 (R j).2.1, .int .u32 (R j).2.2.1, .int .u8 (R j).2.2.2] 72))).four (kr * 4 + j * 4) (by omega)
        obtain ⟨⟨v0, q0⟩, ⟨v1, q1⟩, ⟨v2, q2⟩, ⟨v3, q3⟩, qf⟩ := hTd
        have hDn : Blk (wr.alloc (.cells #[.int .i32 (e : Int), .int .u32 (R j).2.1, .int .u32 (R j).2.2.1, .int .u8 (R j).2.2.2] 72)) wr.heap.size 72 [.int .i32 (e : Int), .int .u32 (R j).2.1, .int .u32 (R j).2.2.1, .int .u8 (R j).2.2.2] := Blk.new wr 72 _
        have hS4 : Hid (at4 (wr.alloc (.cells #[.int .i32 (e : Int), .int .u32 (R j).2.1, .int .u32 (R j).2.2.1, .int .u8 (R j).2.2.2] 72)).drew wr.heap.size 0 ((e : Int), (R j).2)) := ⟨hDn.drew.cell 0, hDn.drew.cell 1, hDn.drew.cell 2, hDn.drew.cell 3⟩
        have hneD : wr.heap.size ≠ gr := by have := hT.lt; omega
        clear hDn
        go_wp2_with (first | (refine wpList_load_blk (by rfl) 72 (.tmp 38) (by rfl) gp (j * 4) (by rfl) [.int .i32 (R j).1, .int .u32 (R j).2.1, .int .u32 (R j).2.2.1, .int .u8 (R j).2.2.2] _ HR.out Try.underlying72 rfl size72 ?_))
        have hT4 := hT.alloc (.cells #[.int .i32 (e : Int), .int .u32 (R j).2.1, .int .u32 (R j).2.2.1, .int .u8 (R j).2.2.2] 72)
        have hg4 := hg.alloc (.cells #[.int .i32 (e : Int), .int .u32 (R j).2.1, .int .u32 (R j).2.2.1, .int .u8 (R j).2.2.2] 72)
        have hEx4 := hEx.alloc (.cells #[.int .i32 (e : Int), .int .u32 (R j).2.1, .int .u32 (R j).2.2.1, .int .u8 (R j).2.2.2] 72)
        generalize wr.alloc (.cells #[.int .i32 (e : Int), .int .u32 (R j).2.1, .int .u32 (R j).2.2.1, .int .u8 (R j).2.2.2] 72) = W4 at hT4 hg4 hEx4 hS4 q0 q1 q2 q3 qf ⊢
        go_region_held3 (at4 · wr.heap.size 0 ((e : Int), (R j).2)) (first | exact hS4.out | with_reducible exact at4_set4d hS4.out hneD) (fail)
        have hrc : rcell gt (tadr R tb) R j = [.slice (some ⟨gt, tb + f, none⟩) (e - f) (e - f), .int .u32 (R j).2.1, .int .u32 (R j).2.2.1, .int .u8 (R j).2.2.2] := by
          unfold rcell tadr rlen
          rw [he, hf]
          first
            | (rw [if_pos rfl]; simp)
            | (rw [if_neg (by omega)]; simp <;> omega)
        have hT5 := hT4.stored (kr * 4 + j * 4) (rcell gt (tadr R tb) R j) (by rw [rcell_length]; omega)
        have hg5 : Blk (W4.setCells gr (kr * 4 + j * 4) (rcell gt (tadr R tb) R j)) gp 72 (rl R n) := hg4.stored_other (hg4.ne hT4 (by decide)) _ _
        have hEx5 : Ex (fun b => b = gr) w3 (W4.setCells gr (kr * 4 + j * 4) (rcell gt (tadr R tb) R j)) := hEx4.setCells (.inl rfl) _ _
        have hc5 : ∀ o, (o < kr * 4 ∨ (kr + n) * 4 ≤ o) → (splice L (kr * 4 + j * 4) (rcell gt (tadr R tb) R j))[o]? = L3[o]? := fun o ho => by
          rw [splice_get _ _ _ (by rw [rcell_length]; omega), rcell_length, ← HO.out o ho]
          rcases ho with ho | ho
          · rw [if_pos (by omega)]
          · rw [if_neg (by omega), if_neg (by omega)]
        have hx5 : (W4.setCells gr (kr * 4 + j * 4) (rcell gt (tadr R tb) R j)).cell? ⟨wr.heap.size, 0, none⟩ = some (.int .i32 (e : Int)) := by
          rw [World.cell?_setCells_out _ _ _ _ _ (fun h => absurd h hneD)]; exact hS4.out.1
        rw [hrc] at hT5 hg5 hEx5 hx5 hc5
        have HF : Hid _ := And.intro hT5 (And.intro hg5 (And.intro hEx5 (And.intro hc5 hrc)))
        have hx6 : ((((W4.setCell ⟨gr, kr * 4 + j * 4, none⟩ (.slice (some ⟨gt, tb + f, none⟩) (e - f) (e - f))).setCell ⟨gr, kr * 4 + j * 4 + 1, none⟩ (.int .u32 (R j).2.1)).setCell ⟨gr, kr * 4 + j * 4 + 2, none⟩ (.int .u32 (R j).2.2.1)).setCell ⟨gr, kr * 4 + j * 4 + 3, none⟩ (.int .u8 (R j).2.2.2)).cell? ⟨wr.heap.size, 0, none⟩ = some (.int .i32 (e : Int)) := hx5
        clear hT5 hg5 hEx5 hc5 hrc hx5 hT4 hg4 hEx4 hT hg hEx q0 q1 q2 q3 qf HR
        go_wp2
        go_roundg (n - (j + 1))
        case measure => omega
        case rel => exact ⟨j + 1, _, by omega, rfl, by rw [before_succ, he], by go_num, HF.out.1, by rw [length_splice _ _ _ (by simp; omega)]; exact hL, by rw [← HF.out.2.2.2.2]; exact LHd.step HP.out (by omega), HF.out.2.2.2.1, HF.out.2.1, HF.out.2.2.1.drew⟩
    · obtain rfl : j = n := by omega
      go_wp2
      go_ret
      exact addAns_end hAT hAR hMN hgtN hin1 hold1 hlow1 hlen1 HTBO.out hL1 hL1l hL2 hEa hEx2 hAT2 hM3a hAR3 hlen3 hgrN hin3 hold3 hlow3 hEx3 hL3 hT hL hP hO hEx hV

end Go.Proofs.Qxb6604013a
