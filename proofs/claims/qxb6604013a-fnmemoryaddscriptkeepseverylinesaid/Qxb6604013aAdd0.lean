import Derived.Test.Qxb6604013aTake1
import Derived.Test.Qxb6604013aTake2
namespace Go.Proofs.Qxb6604013a
open Go.RowKit
set_option linter.unusedVariables false
set_option linter.unusedSimpArgs false
attribute [local go_sem ↓] Go.wp_at_zero Go.wp_at_succ

/-- 'copy' of bytes into a row that is known. -/
theorem wpList_copy_bytes {w : World} {ops : Array Oper} {rest : List Oper} {o : Oper} {a : Act} {Q : Exit → Act → World → Prop} (hgd : o.guard = none) (d s : Operand)
    (ho : o.op = .call { callee := .builtin .copy, args := #[d, s], argTypes := #[22, 22] })
    (g off0 off n cS : Nat) (aS : Option Addr) (hd : a.eval d = .slice (some ⟨g, off0, none⟩) n n) (hs : a.eval s = .slice aS n cS) (hoff : 0 < n → off0 = off) (bS oS : Nat) (B : Nat → Int) (hB : IsBytes w aS n bS oS B)
    (L : List Value) (hL : Blk w g 5 L) (hfit : off + n ≤ L.length)
    (h : ∀ w', Blk w' g 5 (splice L off (bl B n)) → Ex (fun k => k = g) w w' → wpList Try.prog ops Q rest (a.put o.dst (goInt n)) w') :
    wpList Try.prog ops Q (o :: rest) a w := by
  rcases Nat.eq_zero_or_pos n with rfl | hn
  · refine wpList_copy_nothing hgd d s 22 22 ho 5 Try.underlying22 (by kernel_rfl) _ _ _ _ _ _ hd hs (by simp) ?_
    have e : splice L off (bl B 0) = L := by simp [splice, bl]
    exact h w (by rw [e]; exact hL) (Ex.refl _ _)
  · obtain rfl := hB.1 hn
    obtain rfl := hoff hn
    refine wpList_copy_own hgd d s 22 22 ho 5 Try.underlying22 (by kernel_rfl) g off0 n n ⟨bS, oS, none⟩ n cS hd hs L.toArray 5 hL (bl B n) (by simp [bl_length]) (fun j v hv => ?_) (by simpa [bl_length] using hfit) (fun v hv => bl_one hv) ?_
    · have hj : j < n := by have := (List.getElem?_eq_some_iff.1 hv).1; rwa [bl_length] at this
      rw [bl_get _ _ _ hj] at hv
      rw [Addr.add_mid, hB.2 j hj]; exact hv
    · have e : ((bl B n).length : Int) = (n : Int) := by rw [bl_length]
      rw [e]
      have := h (w.setRow g (splice L off0 (bl B n)).toArray) (hL.setRow _) (Ex.setRow (S := fun k => k = g) (Ex.refl _ w) rfl _)
      simpa [splice] using this

def rlen (R : Nat → RunZ) (i : Nat) : Nat := ((R i).1 - before R i).toNat
/-- The four cells of run i of a line whose text lies in block gt; run i's text from A i on. -/
def rcell (gt : Nat) (A : Nat → Nat) (R : Nat → RunZ) (i : Nat) : List Value :=
  [.slice (some ⟨gt, A i, none⟩) (rlen R i) (rlen R i), .int .u32 (R i).2.1, .int .u32 (R i).2.2.1, .int .u8 (R i).2.2.2]
theorem rcell_length (gt : Nat) (A : Nat → Nat) (R : Nat → RunZ) (i : Nat) : (rcell gt A R i).length = 4 := rfl
theorem rcell_one {gt : Nat} {A : Nat → Nat} {R : Nat → RunZ} {i : Nat} {v : Value} (h : v ∈ rcell gt A R i) : v.oneCell' = true := by
  simp [rcell] at h
  rcases h with rfl | rfl | rfl | rfl <;> rfl
/-- Where the text of run i begins. -/
def tadr (R : Nat → RunZ) (tb i : Nat) : Nat := if (R i).1 = before R i then tb else tb + (before R i).toNat

/-- What a call of add leaves. -/
def AddAns (w : World) (Mb N lT n : Nat) (M : List Value) (ckT ckR : List Ck) (R : Nat → RunZ) (B : Nat → Int) (r : Ending) (w' : World) : Prop :=
  ∃ hvT pT ckT' hvR pR ckR' gt kt gr kr A, r = .returned (.slice (some ⟨gr, kr * 4, none⟩) n n) ∧
    Blk w' Mb 36 ((((M.set 0 hvT).set 1 (.int .i64 ((pT : Nat) : Int))).set 2 hvR).set 3 (.int .i64 ((pR : Nat) : Int))) ∧ Arena w' N 22 5 1 hvT pT ckT' ∧ Arena w' N 37 57 4 hvR pR ckR' ∧
    (ckT'.length ≤ ckT.length + 1 ∧ ckR'.length ≤ ckR.length + 1) ∧
    (N ≤ gt ∧ (∃ cap, (gt, kt + lT, cap) ∈ ckT') ∧ (∀ c ∈ ckT, c.1 ≠ gt → c ∈ ckT') ∧ (∀ c ∈ ckT, c.1 = gt → c.2.1 ≤ kt)) ∧
    (N ≤ gr ∧ (∃ cap, (gr, kr + n, cap) ∈ ckR') ∧ (∀ c ∈ ckR, c.1 ≠ gr → c ∈ ckR') ∧ (∀ c ∈ ckR, c.1 = gr → c.2.1 ≤ kr)) ∧
    (∀ i, i < lT → w'.cell? ⟨gt, kt + i, none⟩ = some (.int .u8 (B i))) ∧
    (∀ i, i < n → w'.rangeAt gr ((kr + i) * 4) (rcell gt A R i) ∧ (0 < rlen R i → A i = kt + (before R i).toNat)) ∧
    Ex (fun b => b = Mb ∨ HdrBlk w N 22 b ∨ HdrBlk w N 37 b ∨ b = gt ∨ b = gr) w w' ∧
    (∀ c ∈ ckT, c.1 = gt → ∀ o, (o < kt ∨ kt + lT ≤ o) → w'.cell? ⟨gt, o, none⟩ = w.cell? ⟨gt, o, none⟩) ∧
    (∀ c ∈ ckR, c.1 = gr → ∀ o, (o < kr * 4 ∨ (kr + n) * 4 ≤ o) → w'.cell? ⟨gr, o, none⟩ = w.cell? ⟨gr, o, none⟩)

set_option maxHeartbeats 400000 in
theorem add_none (Mb : Nat) (aT a1 : Option Addr) (lT cT c1 : Nat) (w : World) :
    Calls Try.prog 21 #[.pointer (some ⟨Mb, 0, none⟩), .agg #[.slice aT lT cT, .slice a1 0 c1]] w fun e w' => e = .returned (.slice none 0 0) ∧ Below w.heap.size w w' := by
  go_enter Try.func21, Try.ntmps21
  go_wp2
  go_ret
  exact ⟨rfl, (Below.refl _ w).alloc (Nat.le_refl _) _⟩

theorem HdrBlk.backE {w w' : World} {N he b : Nat} {S : Nat → Prop} (h : HdrBlk w' N he b) (hx : Ex S w w') (hn : ¬ S b) (hb : b < w.heap.size) : HdrBlk w N he b := by
  obtain ⟨h1, L, h2⟩ := h
  exact ⟨h1, L, (hx.block b hb hn).symm.trans h2⟩
/-- An arena one of whose chunks has been written. -/
theorem Arena.touch {w w' : World} {N he e size : Nat} {hv : Value} {p g : Nat} {cks : List Ck} {L L' : List Value} (h : Arena w N he e size hv p cks) (hx : Ex (fun k => k = g) w w') (hne : he ≠ e)
    (hL : Blk w g e L) (hL' : Blk w' g e L') (hl : L'.length = L.length) : Arena w' N he e size hv p cks := by
  refine ⟨⟨h.own.1, ?_⟩, fun c hc => ?_, h.nodup, h.at_le⟩
  · rcases h.own.2 with h1 | ⟨g', cap, cur, h1, h2, h3, h4⟩
    · exact .inl h1
    · have hb : Blk w g' he cur.toList := h3
      exact .inr ⟨g', cap, cur, h1, h2, hb.ex hx (hb.ne hL hne), h4⟩
  · obtain ⟨h1, ⟨K, h2, h3⟩, h4⟩ := h.chunk c hc
    by_cases e' : c.1 = g
    · refine ⟨h1, ⟨L', by rw [e']; exact hL', ?_⟩, h4⟩
      have : K = L := by
        have h5 : w.heap[c.1]? = _ := h2
        have h6 : w.heap[g]? = _ := hL
        rw [e', h6] at h5
        simpa using h5.symm
      rw [hl, ← this]; exact h3
    · exact ⟨h1, ⟨K, h2.ex hx e', h3⟩, h4⟩
theorem Ex.comp {S T U : Nat → Prop} {a b c : World} (h : Ex S a b) (k : Ex T b c) (hS : ∀ x, x < a.heap.size → S x → U x) (hT : ∀ x, x < a.heap.size → ¬ S x → T x → U x) : Ex U a c :=
  ⟨k.os.trans h.os, k.tape.trans h.tape, k.output.trans h.output, Nat.le_trans h.size k.size, fun x hx hn => (k.block x (Nat.lt_of_lt_of_le hx h.size) (fun ht => hn (hT x hx (fun hs => hn (hS x hx hs)) ht))).trans (h.block x hx (fun hs => hn (hS x hx hs)))⟩

/-- The first j runs of a line lie in the row from element kr on. -/
def LHd (L : List Value) (kr gt : Nat) (A : Nat → Nat) (R : Nat → RunZ) (j : Nat) : Prop := ∀ i, i < j → ∀ q v, (rcell gt A R i)[q]? = some v → L[kr * 4 + i * 4 + q]? = some v
theorem LHd.step {L : List Value} {kr gt : Nat} {A : Nat → Nat} {R : Nat → RunZ} {j : Nat} (h : LHd L kr gt A R j) (hl : kr * 4 + j * 4 + 4 ≤ L.length) : LHd (splice L (kr * 4 + j * 4) (rcell gt A R j)) kr gt A R (j + 1) := by
  intro i hi q v hv
  have hq : q < 4 := (List.getElem?_eq_some_iff.1 hv).1
  rw [splice_get _ _ _ (by rw [rcell_length]; omega), rcell_length]
  by_cases e : i = j
  · subst e
    rw [if_neg (by omega), if_pos (by omega), ← hv]
    congr 1; omega
  · rw [if_pos (by omega)]
    exact h i (by omega) q v hv

theorem at4_drew {w : World} {b o : Nat} {z : RunZ} (h : at4 w b o z) : at4 w.drew b o z := h
theorem at4_undrew {w : World} {b o : Nat} {z : RunZ} (h : at4 w.drew b o z) : at4 w b o z := h
theorem at4_set4d {w : World} {b o : Nat} {z : RunZ} {g o0 o1 o2 o3 : Nat} {v0 v1 v2 v3 : Value} (h : at4 w.drew b o z) (hne : b ≠ g) :
    at4 ((((w.setCell ⟨g, o0, none⟩ v0).setCell ⟨g, o1, none⟩ v1).setCell ⟨g, o2, none⟩ v2).setCell ⟨g, o3, none⟩ v3).drew b o z := at4_drew (at4_set4 (at4_undrew h) hne)

abbrev box43 (D : Nat) (v0 v1 : Value) (w' : World) : Prop := w'.cell? ⟨D, 0, none⟩ = some v0 ∧ w'.cell? ⟨D, 1, none⟩ = some v1
theorem Blk.box43 {w : World} {D : Nat} {v0 v1 : Value} (h : Blk w D 43 [v0, v1]) : box43 D v0 v1 w := ⟨h.cell 0, h.cell 1⟩

theorem addAns_end {w w1 w2 w3 wr : World} {Mb N lT n gt kt tb gr kr : Nat} {M L1 L3 L : List Value} {ckT ckR ckT' ckR' : List Ck} {hvT hvR hvT' hvR' : Value} {pT pR pT' pR' : Nat} {R : Nat → RunZ} {B : Nat → Int}
    (hAT : Arena w N 22 5 1 hvT pT ckT) (hAR : Arena w N 37 57 4 hvR pR ckR) (hMN : Mb < N)
    (hgtN : N ≤ gt) (hin1 : ∃ cap, (gt, kt + lT, cap) ∈ ckT') (hold1 : ∀ c ∈ ckT, c.1 ≠ gt → c ∈ ckT') (hlow1 : ∀ c ∈ ckT, c.1 = gt → c.2.1 ≤ kt) (hlen1 : ckT'.length ≤ ckT.length + 1)
    (htb : 0 < lT → tb = kt) (hL1 : Blk w1 gt 5 L1) (hL1l : kt + lT ≤ L1.length) (hL2 : Blk w2 gt 5 (splice L1 kt (bl B lT))) (hEa : Ex (fun b => b = Mb ∨ HdrBlk w N 22 b) w w1) (hEx2 : Ex (fun k => k = gt) w1 w2)
    (hAT2 : Arena w2 N 22 5 1 hvT' pT' ckT') (hM3a : Blk w3 Mb 36 ((((M.set 0 hvT').set 1 (.int .i64 ((pT' : Nat) : Int))).set 2 hvR').set 3 (.int .i64 ((pR' : Nat) : Int)))) (hAR3 : Arena w3 N 37 57 4 hvR' pR' ckR')
    (hlen3 : ckR'.length ≤ ckR.length + 1) (hgrN : N ≤ gr) (hin3 : ∃ cap, (gr, kr + n, cap) ∈ ckR') (hold3 : ∀ c ∈ ckR, c.1 ≠ gr → c ∈ ckR') (hlow3 : ∀ c ∈ ckR, c.1 = gr → c.2.1 ≤ kr)
    (hEx3 : Ex (fun b => b = Mb ∨ HdrBlk w2.drew N 37 b) w2.drew w3) (hL3 : Blk w3 gr 57 L3) (hT : Blk wr gr 57 L) (hL : L.length = L3.length) (hP : LHd L kr gt (tadr R tb) R n)
    (hO : ∀ o, (o < kr * 4 ∨ (kr + n) * 4 ≤ o) → L[o]? = L3[o]?) (hEx : Ex (fun b => b = gr) w3 wr) (hV : Valid lT n R) :
    AddAns w Mb N lT n M ckT ckR R B (.returned (.slice (some ⟨gr, kr * 4, none⟩) n n)) wr := by
  have hgtM : gt ≠ Mb := by omega
  have hgrM : gr ≠ Mb := by omega
  have hE2 : Ex (fun b => b = Mb ∨ HdrBlk w N 22 b ∨ b = gt) w w2 := hEa.comp hEx2 (fun x _ h => h.imp id .inl) (fun x _ _ h => .inr (.inr h))
  have hE3 : Ex (fun b => b = Mb ∨ HdrBlk w N 22 b ∨ HdrBlk w N 37 b ∨ b = gt) w w3 := hE2.drew.comp hEx3 (fun x _ h => by rcases h with h | h | h; exact .inl h; exact .inr (.inl h); exact .inr (.inr (.inr h)))
    (fun x hx hn h => by rcases h with h | h; exact .inl h; exact .inr (.inr (.inl (h.backE hE2.drew hn hx))))
  have hE4 : Ex (fun b => b = Mb ∨ HdrBlk w N 22 b ∨ HdrBlk w N 37 b ∨ b = gt ∨ b = gr) w wr := hE3.comp hEx (fun x _ h => by rcases h with h | h | h | h; exact .inl h; exact .inr (.inl h); exact .inr (.inr (.inl h)); exact .inr (.inr (.inr (.inl h)))) (fun x _ _ h => .inr (.inr (.inr (.inr h))))
  have hG3 : Blk w3 gt 5 (splice L1 kt (bl B lT)) := hL2.drew.ex hEx3 (by rintro (h | ⟨_, K, hK⟩); exact hgtM h; exact absurd (hK.type_eq hL2.drew) (by decide))
  have hGr : Blk wr gt 5 (splice L1 kt (bl B lT)) := hG3.ex hEx (hG3.ne hL3 (by decide))
  have hbl : (bl B lT).length = lT := bl_length B lT
  have hAT3 : Arena w3 N 22 5 1 hvT' pT' ckT' := hAT2.drew.ex hEx3 (fun k hk _ hh => by
    rcases hk with rfl | ⟨_, K, hK⟩
    · omega
    · rcases hh.2 with ⟨K', hK'⟩ | ⟨K', hK'⟩ <;> exact absurd (hK.type_eq hK') (by decide))
  refine ⟨hvT', pT', ckT', hvR', pR', ckR', gt, kt, gr, kr, tadr R tb, rfl, hM3a.ex hEx (fun h => hgrM h.symm), ?_, hAR3.touch hEx (by decide) hL3 hT hL, ⟨hlen1, hlen3⟩, ⟨hgtN, hin1, hold1, hlow1⟩, ⟨hgrN, hin3, hold3, hlow3⟩, ?_, ?_, hE4, ?_, ?_⟩
  · exact hAT3.ex hEx (fun k hk _ hh => by
      subst hk
      rcases hh.2 with ⟨K', hK'⟩ | ⟨K', hK'⟩ <;> exact absurd (hL3.type_eq hK') (by decide))
  · intro i hi
    rw [hGr.cell, splice_get _ _ _ (by omega), hbl, if_neg (by omega), if_pos (by omega), show kt + i - kt = i by omega, bl_get _ _ _ hi]
  · intro i hi
    refine ⟨?_, fun hr => ?_⟩
    · rw [show (kr + i) * 4 = kr * 4 + i * 4 by omega]
      exact hT.range _ _ (fun q v hv => hP i hi q v hv)
    · unfold rlen at hr
      unfold tadr
      have h2 := (hV i hi).2
      have h3 : 0 ≤ before R i := by
        have : ∀ m, m < n → 0 ≤ before R m := by
          intro m
          induction m with
          | zero => intro _; simp [before]
          | succ m ih => intro hm; rw [before_succ]; exact Int.le_trans (ih (by omega)) (hV m (by omega)).1
        exact this i hi
      rw [if_neg (by omega), htb (by omega)]
  · intro c hc hce o ho
    obtain ⟨_, ⟨K, hK, _⟩, _⟩ := hAT.chunk c hc
    rw [hce] at hK
    have h1 : Blk w1 gt 5 K := hK.ex hEa (by rintro (h | ⟨_, K', hK'⟩); exact hgtM h; exact absurd (hK'.type_eq hK) (by decide))
    have hKL : K = L1 := by
      have h5 : w1.heap[gt]? = _ := h1
      have h6 : w1.heap[gt]? = _ := hL1
      rw [h6] at h5
      simpa using h5.symm
    rw [hGr.cell, hK.cell, hKL, splice_get _ _ _ (by omega), hbl]
    rcases ho with ho | ho
    · rw [if_pos ho]
    · rw [if_neg (by omega), if_neg (by omega)]
  · intro c hc hce o ho
    obtain ⟨_, ⟨K, hK, _⟩, _⟩ := hAR.chunk c hc
    rw [hce] at hK
    have h1 : Blk w1 gr 57 K := hK.ex hEa (by rintro (h | ⟨_, K', hK'⟩); exact hgrM h; exact absurd (hK'.type_eq hK) (by decide))
    have h2 : Blk w2 gr 57 K := h1.ex hEx2 (h1.ne hL1 (by decide))
    have h3 : Blk w3 gr 57 K := h2.drew.ex hEx3 (by rintro (h | ⟨_, K', hK'⟩); exact hgrM h; exact absurd (hK'.type_eq h2.drew) (by decide))
    have hKL : K = L3 := by
      have h5 : w3.heap[gr]? = _ := h3
      have h6 : w3.heap[gr]? = _ := hL3
      rw [h6] at h5
      simpa using h5.symm
    rw [hT.cell, hK.cell, hKL, hO o ho]

end Go.Proofs.Qxb6604013a
