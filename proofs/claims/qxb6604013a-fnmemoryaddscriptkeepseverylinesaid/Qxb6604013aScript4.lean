import Derived.Test.Qxb6604013aScript3
namespace Go.Proofs.Qxb6604013a
open Go.RowKit
set_option linter.unusedVariables false
set_option linter.unusedSimpArgs false
attribute [local go_sem ↓] Go.wp_at_zero Go.wp_at_succ

theorem info38 : (Try.prog.info? 38).map (fun i => (i.zero, i.size, i.bytes)) = some (some (.slice none 0 0), 1, 24) := by kernel_rfl
theorem info4 : (Try.prog.info? 4).map (fun i => (i.zero, i.size, i.bytes)) = some (some (.bool false), 1, 1) := by kernel_rfl

/-- A cloned slice of texts, opened. -/
def CloneT2 (w : World) (n : Nat) (lA : Nat → Nat) (B : Nat → Nat → Int) (e : Ending) (w' : World) : Prop :=
  ∃ (a : Option Addr) (c b : Nat) (tA : Nat → Option Addr) (tC tB : Nat → Nat), e = .returned (.slice a n c) ∧ IsRow2 w' a n b 0 tA lA tC ∧ (∀ i, i < n → IsBytes w' (tA i) (lA i) (tB i) 0 (B i)) ∧ (∀ i, i < n → tA i = none → lA i = 0 ∧ tC i = 0) ∧ Below w.heap.size w w'
def CloneL2 (w : World) (n : Nat) (lR : Nat → Nat) (R : Nat → Nat → RunZ) (e : Ending) (w' : World) : Prop :=
  ∃ (a : Option Addr) (c b : Nat) (tA : Nat → Option Addr) (tC tB : Nat → Nat), e = .returned (.slice a n c) ∧ IsRow2 w' a n b 0 tA lR tC ∧ (∀ i, i < n → IsRuns w' (tA i) (lR i) (tB i) 0 (R i)) ∧ (∀ i, i < n → tA i = none → lR i = 0 ∧ tC i = 0) ∧ Below w.heap.size w w'
theorem CloneT.opened {w w' : World} {n : Nat} {lA : Nat → Nat} {B : Nat → Nat → Int} {e : Ending} (h : CloneT w n lA B e w') : CloneT2 w n lA B e w' := by
  obtain ⟨a, c, b, rfl, h1, h2⟩ := h
  rcases Nat.eq_zero_or_pos n with rfl | hn
  · exact ⟨a, c, b, fun _ => none, fun _ => 0, fun _ => 0, rfl, ⟨fun h => by omega, fun i hi => by omega⟩, fun i hi => by omega, fun i hi => by omega, h2⟩
  · obtain ⟨h3, _, h4⟩ := h1 hn
    obtain ⟨tA, tC, tB, h5, h6⟩ := rowP_open (lA := lA) h4 (fun q a c b => IsBytes w' a (lA q) b 0 (B q) ∧ (a = none → lA q = 0 ∧ c = 0)) (fun q v _ hv => by
      obtain ⟨a, c, b, k1, k2, _, k4⟩ := hv
      exact ⟨a, c, b, k1, k2, k4⟩)
    exact ⟨a, c, b, tA, tC, tB, rfl, ⟨fun _ => h3, fun i hi => by rw [Nat.zero_add]; exact h5 i hi⟩, fun i hi => (h6 i hi).1, fun i hi => (h6 i hi).2, h2⟩
theorem CloneL.opened {w w' : World} {n : Nat} {lR : Nat → Nat} {R : Nat → Nat → RunZ} {e : Ending} (h : CloneL w n lR R e w') : CloneL2 w n lR R e w' := by
  obtain ⟨a, c, b, rfl, h1, h2⟩ := h
  rcases Nat.eq_zero_or_pos n with rfl | hn
  · exact ⟨a, c, b, fun _ => none, fun _ => 0, fun _ => 0, rfl, ⟨fun h => by omega, fun i hi => by omega⟩, fun i hi => by omega, fun i hi => by omega, h2⟩
  · obtain ⟨h3, _, h4⟩ := h1 hn
    obtain ⟨tA, tC, tB, h5, h6⟩ := rowP_open (lA := lR) h4 (fun q a c b => IsRuns w' a (lR q) b 0 (R q) ∧ (a = none → lR q = 0 ∧ c = 0)) (fun q v _ hv => by
      obtain ⟨a, c, b, k1, k2, _, k4⟩ := hv
      exact ⟨a, c, b, k1, k2, k4⟩)
    exact ⟨a, c, b, tA, tC, tB, rfl, ⟨fun _ => h3, fun i hi => by rw [Nat.zero_add]; exact h5 i hi⟩, fun i hi => (h6 i hi).1, fun i hi => (h6 i hi).2, h2⟩
theorem cloneTexts_any (a : Option Addr) (n c b off : Nat) (aA : Nat → Option Addr) (lA cA bA oA : Nat → Nat) (B : Nat → Nat → Int) (w : World) (hn : n ≤ 65536) (hz : a = none → n = 0 ∧ c = 0) (h0 : IsRow2 w a n b off aA lA cA)
    (hI : ∀ i, i < n → IsBytes w (aA i) (lA i) (bA i) (oA i) (B i)) (hN : ∀ i, i < n → aA i = none → lA i = 0 ∧ cA i = 0) (hl : ∀ i, i < n → lA i ≤ 1048576) :
    Calls Try.prog 15 #[.slice a n c] w (CloneT2 w n lA B) := by
  cases a with
  | none =>
    obtain ⟨rfl, rfl⟩ := hz rfl
    exact (cloneTexts_nil w lA B).mono (fun e w' h => h.opened)
  | some ad => exact (cloneTexts_some ad n c b off aA lA cA bA oA B w hn h0 hI hN hl).mono (fun e w' h => h.opened)
theorem cloneLists_any (a : Option Addr) (n c b off : Nat) (aA : Nat → Option Addr) (lA cA bA oA : Nat → Nat) (R : Nat → Nat → RunZ) (w : World) (hn : n ≤ 65536) (hz : a = none → n = 0 ∧ c = 0) (h0 : IsRow2 w a n b off aA lA cA)
    (hI : ∀ i, i < n → IsRuns w (aA i) (lA i) (bA i) (oA i) (R i)) (hN : ∀ i, i < n → aA i = none → lA i = 0 ∧ cA i = 0) (hl : ∀ i, i < n → lA i ≤ 65536) :
    Calls Try.prog 16 #[.slice a n c] w (CloneL2 w n lA R) := by
  cases a with
  | none =>
    obtain ⟨rfl, rfl⟩ := hz rfl
    exact (cloneLists_nil w lA R).mono (fun e w' h => h.opened)
  | some ad => exact (cloneLists_some ad n c b off aA lA cA bA oA R w hn h0 hI hN hl).mono (fun e w' h => h.opened)

/-- Line q is there. -/
def lv (vb : Nat → Bool) (lR : Nat → Nat) (q : Nat) : Prop := vb q = true ∧ 0 < lR q
/-- What 'got' holds for line q. -/
def gv (r : LRec) (n : Nat) : Value := .slice (some ⟨r.gr, r.kr * 4, none⟩) n n

structure L4 (w : World) (D nn jk jg : Nat) (vb : Nat → Bool) (lA lR : Nat → Nat) (R : Nat → Nat → RunZ) (B : Nat → Nat → Int) (LG LK M : List Value) (hvT : Value) (pT : Nat) (hvR : Value) (pR : Nat) (ckT ckR : List Ck) (ln : Nat → LRec) : Prop where
  got : Blk w D 38 LG
  gotl : LG.length = nn
  ok : Blk w (D + 1) 4 LK
  okl : LK.length = nn
  mem : Blk w (D + 2) 36 M
  meml : M.length = 6
  m0 : M[0]? = some hvT
  m1 : M[1]? = some (.int .i64 (pT : Int))
  m2 : M[2]? = some hvR
  m3 : M[3]? = some (.int .i64 (pR : Int))
  aT : Arena w (D + 3) 22 5 1 hvT pT ckT
  aR : Arena w (D + 3) 37 57 4 hvR pR ckR
  cT : ckT.length ≤ jg
  cR : ckR.length ≤ jg
  ls : Ls w (D + 3) jg (lv vb lR) lA lR R B ln ckT ckR
  okv : ∀ q, q < nn → LK[q]? = some (.bool (if q < jk then vb q else false))
  gotn : ∀ q, q < nn → ¬ (q < jg ∧ vb q = true ∧ 0 < lR q) → LG[q]? = some (.slice none 0 0)
  gotv : ∀ q, q < nn → (q < jg ∧ vb q = true ∧ 0 < lR q) → LG[q]? = some (gv (ln q) (lR q))

section
variable {w w' : World} {D nn jk jg j : Nat} {vb : Nat → Bool} {lA lR : Nat → Nat} {R : Nat → Nat → RunZ} {B : Nat → Nat → Int} {LG LK M : List Value} {hvT : Value} {pT : Nat} {hvR : Value} {pR : Nat} {ckT ckR : List Ck} {ln : Nat → LRec}
theorem L4.sz (h : L4 w D nn jk jg vb lA lR R B LG LK M hvT pT hvR pR ckT ckR ln) : D + 3 ≤ w.heap.size := by have := h.mem.lt; omega
theorem L4.ex {S : Nat → Prop} (h : L4 w D nn jk jg vb lA lR R B LG LK M hvT pT hvR pR ckT ckR ln) (hx : Ex S w w') (hS : ∀ k, S k → k < D) : L4 w' D nn jk jg vb lA lR R B LG LK M hvT pT hvR pR ckT ckR ln :=
  ⟨h.got.ex hx (fun hs => by have := hS _ hs; omega), h.gotl, h.ok.ex hx (fun hs => by have := hS _ hs; omega), h.okl, h.mem.ex hx (fun hs => by have := hS _ hs; omega), h.meml, h.m0, h.m1, h.m2, h.m3,
    h.aT.ex hx (fun k hs _ hh => by have := hS _ hs; omega), h.aR.ex hx (fun k hs _ hh => by have := hS _ hs; omega), h.cT, h.cR, h.ls.ex hx (fun k hs => by have := hS _ hs; omega), h.okv, h.gotn, h.gotv⟩
theorem L4.below (h : L4 w D nn jk jg vb lA lR R B LG LK M hvT pT hvR pR ckT ckR ln) (hb : Below w.heap.size w w') : L4 w' D nn jk jg vb lA lR R B LG LK M hvT pT hvR pR ckT ckR ln :=
  h.ex (S := fun _ => False) ((Ex.refl _ w).of_below hb) (fun k hk => hk.elim)
theorem L4.drew (h : L4 w D nn jk jg vb lA lR R B LG LK M hvT pT hvR pR ckT ckR ln) : L4 w.drew D nn jk jg vb lA lR R B LG LK M hvT pT hvR pR ckT ckR ln :=
  h.ex (S := fun _ => False) ((Ex.refl _ w).drew) (fun k hk => hk.elim)

/-- Nothing of it is known to be right. -/
theorem L4.dead (h : L4 w D nn j j vb lA lR R B LG LK M hvT pT hvR pR ckT ckR ln) (hv : vb j = false) : L4 w D nn (j + 1) (j + 1) vb lA lR R B LG LK M hvT pT hvR pR ckT ckR ln := by
  refine ⟨h.got, h.gotl, h.ok, h.okl, h.mem, h.meml, h.m0, h.m1, h.m2, h.m3, h.aT, h.aR, Nat.le_succ_of_le h.cT, Nat.le_succ_of_le h.cR, h.ls.dead (fun hl => by rw [hl.1] at hv; cases hv), fun q hq => ?_, fun q hq hn => ?_, fun q hq hn => ?_⟩
  · rw [h.okv q hq]
    by_cases e : q = j
    · subst e; rw [if_neg (by omega), if_pos (by omega), hv]
    · by_cases c : q < j
      · rw [if_pos c, if_pos (by omega)]
      · rw [if_neg c, if_neg (by omega)]
  · exact h.gotn q hq (fun hh => hn ⟨by omega, hh.2⟩)
  · by_cases e : q = j
    · subst e; rw [hn.2.1] at hv; cases hv
    · exact h.gotv q hq ⟨by omega, hn.2⟩
theorem exD1 (w : World) (g o : Nat) (v : Value) : Ex (fun k => k = g) w (w.setCell ⟨g, o, none⟩ v) := ⟨rfl, rfl, rfl, by simp, fun k _ hk => Below.heap_setCell _ _ _ _ hk⟩
/-- ok[j] = true -/
theorem L4.okset (h : L4 w D nn j j vb lA lR R B LG LK M hvT pT hvR pR ckT ckR ln) (hv : vb j = true) (hj : j < nn) : L4 (w.setCell ⟨D + 1, j, none⟩ (.bool true)) D nn (j + 1) j vb lA lR R B LG (LK.set j (.bool true)) M hvT pT hvR pR ckT ckR ln := by
  have hx := exD1 w (D + 1) j (.bool true)
  refine ⟨h.got.ex hx (by omega), h.gotl, h.ok.setCell j _, by simpa using h.okl, h.mem.ex hx (by omega), h.meml, h.m0, h.m1, h.m2, h.m3, h.aT.ex hx (fun k hk _ hh => by omega), h.aR.ex hx (fun k hk _ hh => by omega), h.cT, h.cR, h.ls.ex hx (fun k hk => by omega), fun q hq => ?_, h.gotn, h.gotv⟩
  by_cases e : q = j
  · subst e
    rw [if_pos (by omega), hv]
    simp [h.okl, hq]
  · rw [List.getElem?_set_ne (by omega), h.okv q hq]
    by_cases c : q < j
    · rw [if_pos c, if_pos (by omega)]
    · rw [if_neg c, if_neg (by omega)]
/-- got[j] of an empty line -/
theorem L4.none_ (h : L4 w D nn (j + 1) j vb lA lR R B LG LK M hvT pT hvR pR ckT ckR ln) (h0 : lR j = 0) (hj : j < nn) : L4 (w.setCell ⟨D, j, none⟩ (.slice none 0 0)) D nn (j + 1) (j + 1) vb lA lR R B (LG.set j (.slice none 0 0)) LK M hvT pT hvR pR ckT ckR ln := by
  have hx := exD1 w D j (.slice none 0 0)
  refine ⟨h.got.setCell j _, by simpa using h.gotl, h.ok.ex hx (by omega), h.okl, h.mem.ex hx (by omega), h.meml, h.m0, h.m1, h.m2, h.m3, h.aT.ex hx (fun k hk _ hh => by omega), h.aR.ex hx (fun k hk _ hh => by omega), Nat.le_succ_of_le h.cT, Nat.le_succ_of_le h.cR, (h.ls.ex hx (fun k hk => by omega)).dead (fun hl => by have := hl.2; omega), h.okv, fun q hq hn => ?_, fun q hq hn => ?_⟩
  · by_cases e : q = j
    · subst e; simp [h.gotl, hq]
    · rw [List.getElem?_set_ne (by omega)]; exact h.gotn q hq (fun hh => hn ⟨by omega, hh.2⟩)
  · by_cases e : q = j
    · subst e; omega
    · rw [List.getElem?_set_ne (by omega)]; exact h.gotv q hq ⟨by omega, hn.2⟩
/-- got[j] of a line that add made -/
theorem L4.some_ {v : Value} (h : L4 w D nn (j + 1) j vb lA lR R B LG LK M hvT pT hvR pR ckT ckR ln) (hv : vb j = true) (h0 : 0 < lR j) (hj : j < nn) (ha : AddAns w (D + 2) (D + 3) (lA j) (lR j) M ckT ckR (R j) (B j) (.returned v) w') :
    (∃ LG' M' hvT' pT' hvR' pR' ckT' ckR' ln', L4 (w'.setCell ⟨D, j, none⟩ v) D nn (j + 1) (j + 1) vb lA lR R B LG' LK M' hvT' pT' hvR' pR' ckT' ckR' ln') := by
  obtain ⟨hvT', pT', ckT', hvR', pR', ckR', gt, kt, gr, kr, A, h1, h2, h3, h4, h5, h6, h7, h8, h9, h10, h11, h12⟩ := ha
  injection h1 with h1
  subst h1
  have hx := exD1 w' D j (.slice (some ⟨gr, kr * 4, none⟩) (lR j) (lR j))
  have hg : Blk w' D 38 LG := h.got.ex h10 (by rintro (hh | ⟨hh, _⟩ | ⟨hh, _⟩ | hh | hh) <;> omega)
  have hk : Blk w' (D + 1) 4 LK := h.ok.ex h10 (by rintro (hh | ⟨hh, _⟩ | ⟨hh, _⟩ | hh | hh) <;> omega)
  have hls := Ls.add (j := j) h.ls (by omega : D + 2 < D + 3) h.aT h.aR h3 h4 h6 h7 h8 h9 h10 h11 h12
  refine ⟨_, _, hvT', pT', hvR', pR', ckT', ckR', _, hg.setCell j _, by simpa using h.gotl, hk.ex hx (by omega), h.okl, h2.ex hx (by omega), by simpa using h.meml, ?_, ?_, ?_, ?_, h3.ex hx (fun k hk _ hh => by omega), h4.ex hx (fun k hk _ hh => by omega), by have := h.cT; omega, by have := h.cR; omega, hls.ex hx (fun k hk => by omega), h.okv, fun q hq hn => ?_, fun q hq hn => ?_⟩
  · have := h.meml; simp [List.getElem?_set, this]
  · have := h.meml; simp [List.getElem?_set, this]
  · have := h.meml; simp [List.getElem?_set, this]
  · have := h.meml; simp [List.getElem?_set, this]
  · by_cases e : q = j
    · subst e; exact absurd ⟨by omega, hv, h0⟩ hn
    · rw [List.getElem?_set_ne (by omega)]; exact h.gotn q hq (fun hh => hn ⟨by omega, hh.2⟩)
  · by_cases e : q = j
    · subst e
      simp [h.gotl, hq, gv]
    · rw [List.getElem?_set_ne (by omega)]
      simp only [if_neg e]
      exact h.gotv q hq ⟨by omega, hn.2⟩
theorem AddAns.value {Mb N lT n : Nat} {R0 : Nat → RunZ} {B0 : Nat → Int} {e : Ending} (h : AddAns w Mb N lT n M ckT ckR R0 B0 e w') : ∃ g o, e = .returned (.slice (some ⟨g, o, none⟩) n n) := by
  obtain ⟨_, _, _, _, _, _, _, _, gr, kr, _, h1, _⟩ := h
  exact ⟨gr, kr * 4, h1⟩
theorem AddAns.frame {Mb N lT n : Nat} {R0 : Nat → RunZ} {B0 : Nat → Int} {e : Ending} (h : AddAns w Mb N lT n M ckT ckR R0 B0 e w') (hM : Mb < N) (hs : Mb ≤ w.heap.size) : Below Mb w w' := by
  obtain ⟨_, _, _, _, _, _, _, _, gr, kr, _, h1, h2, h3, h4, h5, h6, h7, h8, h9, h10, _⟩ := h
  exact h10.below hs (by have := h6.1; have := h7.1; rintro k (hh | ⟨hh, _⟩ | ⟨hh, _⟩ | hh | hh) <;> omega)
/-- The beginning. -/
theorem L4.start {w3 : World} (nn : Nat) (h1 : Blk w w3.heap.size 38 (Rep nn (Value.slice none 0 0).cells.toList)) (h2 : Blk w (w3.heap.size + 1) 4 (Rep nn (Value.bool false).cells.toList)) (h3 : Blk w (w3.heap.size + 2) 36 mem0) :
    L4 w w3.heap.size nn 0 0 vb lA lR R B (Rep nn (Value.slice none 0 0).cells.toList) (Rep nn (Value.bool false).cells.toList) mem0 (.slice none 0 0) 0 (.slice none 0 0) 0 [] [] (fun _ => ⟨0, 0, 0, 0, fun _ => 0⟩) := by
  refine ⟨h1, by rw [Rep_length]; simp [Value.cells], h2, by rw [Rep_length]; simp [Value.cells], h3, rfl, rfl, rfl, rfl, rfl, arena0 _ _ _ _ _, arena0 _ _ _ _ _, by simp, by simp, Ls.zero, fun q hq => ?_, fun q hq _ => ?_, fun q hq hn => by omega⟩
  · rw [Rep_get? _ _ _ (by simpa [Value.cells] using hq)]; simp [Value.cells, Nat.mod_one]
  · rw [Rep_get? _ _ _ (by simpa [Value.cells] using hq)]; simp [Value.cells, Nat.mod_one]
end
end Go.Proofs.Qxb6604013a
