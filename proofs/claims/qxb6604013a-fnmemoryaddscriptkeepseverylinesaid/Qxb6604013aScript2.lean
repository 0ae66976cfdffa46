import Derived.Test.Qxb6604013aScript1
namespace Go.Proofs.Qxb6604013a
open Go.RowKit
set_option linter.unusedVariables false
set_option linter.unusedSimpArgs false
attribute [local go_sem ↓] Go.wp_at_zero Go.wp_at_succ

theorem info23 : (Try.prog.info? 23).map (fun i => (i.zero, i.size, i.bytes)) = some (some (.slice none 0 0), 1, 24) := by kernel_rfl

/-- The value v is a slice of the bytes B in a row of its own, no block below D. -/
def InOk (w : World) (D l : Nat) (B : Nat → Int) (v : Value) : Prop :=
  ∃ a c b, v = .slice a l c ∧ IsBytes w a l b 0 B ∧ (0 < l → D ≤ b ∧ Blk w b 5 (bl B l)) ∧ (a = none → l = 0 ∧ c = 0)
def RnOk (w : World) (D n : Nat) (R : Nat → RunZ) (v : Value) : Prop :=
  ∃ a c b, v = .slice a n c ∧ IsRuns w a n b 0 R ∧ (0 < n → D ≤ b ∧ Blk w b 69 (rl R n)) ∧ (a = none → n = 0 ∧ c = 0)
theorem InOk.ex {w w' : World} {D l : Nat} {B : Nat → Int} {v : Value} {S : Nat → Prop} (h : InOk w D l B v) (hx : Ex S w w') (hS : ∀ k, S k → k < D) : InOk w' D l B v := by
  obtain ⟨a, c, b, h1, h2, h3, h4⟩ := h
  have hn : 0 < l → ¬ S b := fun hl hs => by have := (h3 hl).1; have := hS b hs; omega
  exact ⟨a, c, b, h1, h2.ex hx hn, fun hl => ⟨(h3 hl).1, (h3 hl).2.ex hx (hn hl)⟩, h4⟩
theorem RnOk.ex {w w' : World} {D n : Nat} {R : Nat → RunZ} {v : Value} {S : Nat → Prop} (h : RnOk w D n R v) (hx : Ex S w w') (hS : ∀ k, S k → k < D) : RnOk w' D n R v := by
  obtain ⟨a, c, b, h1, h2, h3, h4⟩ := h
  have hn : 0 < n → ¬ S b := fun hl hs => by have := (h3 hl).1; have := hS b hs; omega
  exact ⟨a, c, b, h1, h2.ex hx hn, fun hl => ⟨(h3 hl).1, (h3 hl).2.ex hx (hn hl)⟩, h4⟩

/-- Block g is a row of n cells; of the first j of them P is known. -/
def RowP (P : Nat → World → Value → Prop) (w : World) (g t n j : Nat) : Prop := ∃ L, Blk w g t L ∧ L.length = n ∧ ∀ q, q < j → ∃ v, L[q]? = some v ∧ P q w v
theorem RowP.step {P : Nat → World → Value → Prop} {w w' : World} {g t n j : Nat} {v : Value} (h : RowP P w g t n j) (hb : Below w.heap.size w w') (hj : j < n)
    (hP : ∀ q u, P q w u → P q (w'.setCell ⟨g, j, none⟩ v) u) (hv : P j (w'.setCell ⟨g, j, none⟩ v) v) : RowP P (w'.setCell ⟨g, j, none⟩ v) g t n (j + 1) := by
  obtain ⟨L, h1, h2, h3⟩ := h
  refine ⟨L.set j v, (h1.below hb h1.lt).setCell j v, by simpa using h2, fun q hq => ?_⟩
  by_cases e : q = j
  · subst e
    exact ⟨v, by simp [h2, hj], hv⟩
  · obtain ⟨u, h4, h5⟩ := h3 q (by omega)
    exact ⟨u, by rw [List.getElem?_set_ne (by omega)]; exact h4, hP q u h5⟩
theorem RowP.at {P : Nat → World → Value → Prop} {w w' : World} {g t n j q : Nat} (h : RowP P w g t n j) (hb : Below w.heap.size w w') (hq : q < n) : (∃ v, w'.cell? ⟨g, q, none⟩ = some v) ∧ w'.frozen? ⟨g, q, none⟩ = false := by
  obtain ⟨L, h1, h2, h3⟩ := h
  have h4 := h1.below hb h1.lt
  exact ⟨⟨L[q], by rw [h4.cell]; simp⟩, h4.frozen q⟩
/-- A step of the world that makes new blocks and writes g alone. -/
theorem Ex.made {w w' : World} {g : Nat} (hb : Below w.heap.size w w') (o : Nat) (v : Value) : Ex (fun k => k = g) w (w'.setCell ⟨g, o, none⟩ v) :=
  ((Ex.refl (fun k => k = g) w).of_below hb).trans ⟨rfl, rfl, rfl, by simp, fun k _ hk => Below.heap_setCell _ _ _ _ hk⟩

def CloneT (w : World) (n : Nat) (lA : Nat → Nat) (B : Nat → Nat → Int) (e : Ending) (w' : World) : Prop :=
  ∃ a c b, e = .returned (.slice a n c) ∧ (0 < n → a = some ⟨b, 0, none⟩ ∧ w.heap.size ≤ b ∧ RowP (fun q W v => InOk W (b + 1) (lA q) (B q) v) w' b 22 n n) ∧ Below w.heap.size w w'
def CloneL (w : World) (n : Nat) (lR : Nat → Nat) (R : Nat → Nat → RunZ) (e : Ending) (w' : World) : Prop :=
  ∃ a c b, e = .returned (.slice a n c) ∧ (0 < n → a = some ⟨b, 0, none⟩ ∧ w.heap.size ≤ b ∧ RowP (fun q W v => RnOk W (b + 1) (lR q) (R q) v) w' b 23 n n) ∧ Below w.heap.size w w'

set_option maxHeartbeats 1000000 in
theorem cloneTexts_some (ad : Addr) (n c b off : Nat) (aA : Nat → Option Addr) (lA cA bA oA : Nat → Nat) (B : Nat → Nat → Int) (w : World) (hn : n ≤ 65536) (h0 : IsRow2 w (some ad) n b off aA lA cA)
    (hI : ∀ i, i < n → IsBytes w (aA i) (lA i) (bA i) (oA i) (B i)) (hN : ∀ i, i < n → aA i = none → lA i = 0 ∧ cA i = 0) (hl : ∀ i, i < n → lA i ≤ 1048576) :
    Calls Try.prog 15 #[.slice (some ad) n c] w (CloneT w n lA B) := by
  have hq27 := fun (W : World) (x : Addr) (l c : Nat) => Lib.run_eql_slice_nil (P := Try.prog) W 27 22 (some x) l c 0 0 Try.underlying27
  simp only [Option.isNone_some] at hq27
  go_enter Try.func15, Try.ntmps15
  go_wp2_with (at_make; refine wpList_make_blk (by rfl) (.tmp 8) (.tmp 8) 27 (by rfl) 22 _ 1 24 Try.underlying27 info22 (by rfl) n (by rfl) (by rfl) (by omega) (by omega) ?_; intro w2 hT hb2 hs2)
  have hL : (Rep n (Value.slice none 0 0).cells.toList).length = n := by rw [Rep_length]; simp [Value.cells]
  have hT0 : RowP (fun q W v => InOk W (w.heap.size + 1) (lA q) (B q) v) w2 w.heap.size 22 n 0 := ⟨_, hT, hL, fun q hq => by omega⟩
  clear hT hL
  go_loopg [4] n (fun k i wr => ∃ j : Nat, j ≤ n ∧ k = n - j ∧ i = .int .i64 j ∧ RowP (fun q W v => InOk W (w.heap.size + 1) (lA q) (B q) v) wr w.heap.size 22 n j ∧ w.heap.size + 1 ≤ wr.heap.size ∧ Below w.heap.size w wr)
  case atStart => exact ⟨0, by omega, by omega, rfl, hT0, by omega, hb2⟩
  case round =>
    clear hT0 hb2 hs2
    obtain ⟨j, hj, rfl, rfl, hT, hsz, hBw⟩ := hrel
    by_cases hlt : j < n
    · have had : ad = ⟨b, off, none⟩ := by have := h0.at_ (by omega); simpa using this
      subst had
      have hc : wr.cell? ⟨b, off + j, none⟩ = some (.slice (aA j) (lA j) (cA j)) := (hBw.cell (p := ⟨b, off + j, none⟩) (h0.lt (by omega))).trans (h0.cell j hlt)
      have hl0 : (0 : Int) ≤ (j : Int) := by omega
      have hl1 : (j : Int) < (n : Int) := by omega
      have hIj := (hI j hlt).below hBw
      have HN : Hid (aA j = none → lA j = 0 ∧ cA j = 0) := hN j hlt
      have hlj := hl j hlt
      go_wp2_with (go_at_call 9; refine (cloneBytes_any (aA j) (lA j) (cA j) (bA j) (oA j) (B j) _ hlj HN.out hIj).mono ?_; rintro e w5 ⟨a5, c5, b5, rfl, hB5, hO5, hN5, hb5⟩; obtain ⟨⟨x5, hx5⟩, hf5⟩ := hT.at hb5 hlt)
      have HO : Hid _ := hO5
      have HN5 : Hid _ := hN5
      go_roundg (n - (j + 1))
      case measure => omega
      case rel =>
        have hs5 := hb5.size
        have hex := Ex.made (g := w.heap.size) hb5 j (.slice a5 (lA j) c5)
        have hex5 : Ex (fun k => k = w.heap.size) w5 (w5.setCell ⟨w.heap.size, j, none⟩ (.slice a5 (lA j) c5)) := Ex.made (Below.refl _ w5) j _
        have hne : 0 < lA j → ¬ b5 = w.heap.size := fun h => by have := (HO.out h).1; omega
        refine ⟨j + 1, by omega, rfl, by go_num, hT.step hb5 hlt (fun q u hq => InOk.ex hq hex (fun k hk => by omega)) ?_, by simp; omega, (hBw.trans (hb5.mono (by omega))).setCell (by simp) _⟩
        exact ⟨a5, c5, b5, rfl, hB5.ex hex5 hne, fun h => ⟨by have := (HO.out h).1; omega, (HO.out h).2.ex hex5 (hne h)⟩, HN5.out⟩
    · obtain rfl : j = n := by omega
      go_wp2
      go_ret
      exact ⟨_, _, w.heap.size, rfl, fun _ => ⟨rfl, Nat.le_refl _, hT⟩, hBw⟩

set_option maxHeartbeats 1000000 in
theorem cloneLists_some (ad : Addr) (n c b off : Nat) (aA : Nat → Option Addr) (lA cA bA oA : Nat → Nat) (R : Nat → Nat → RunZ) (w : World) (hn : n ≤ 65536) (h0 : IsRow2 w (some ad) n b off aA lA cA)
    (hI : ∀ i, i < n → IsRuns w (aA i) (lA i) (bA i) (oA i) (R i)) (hN : ∀ i, i < n → aA i = none → lA i = 0 ∧ cA i = 0) (hl : ∀ i, i < n → lA i ≤ 65536) :
    Calls Try.prog 16 #[.slice (some ad) n c] w (CloneL w n lA R) := by
  have hq46 := fun (W : World) (x : Addr) (l c : Nat) => Lib.run_eql_slice_nil (P := Try.prog) W 46 23 (some x) l c 0 0 Try.underlying46
  simp only [Option.isNone_some] at hq46
  go_enter Try.func16, Try.ntmps16
  go_wp2_with (at_make; refine wpList_make_blk (by rfl) (.tmp 8) (.tmp 8) 46 (by rfl) 23 _ 1 24 Try.underlying46 info23 (by rfl) n (by rfl) (by rfl) (by omega) (by omega) ?_; intro w2 hT hb2 hs2)
  have hL : (Rep n (Value.slice none 0 0).cells.toList).length = n := by rw [Rep_length]; simp [Value.cells]
  have hT0 : RowP (fun q W v => RnOk W (w.heap.size + 1) (lA q) (R q) v) w2 w.heap.size 23 n 0 := ⟨_, hT, hL, fun q hq => by omega⟩
  clear hT hL
  go_loopg [4] n (fun k i wr => ∃ j : Nat, j ≤ n ∧ k = n - j ∧ i = .int .i64 j ∧ RowP (fun q W v => RnOk W (w.heap.size + 1) (lA q) (R q) v) wr w.heap.size 23 n j ∧ w.heap.size + 1 ≤ wr.heap.size ∧ Below w.heap.size w wr)
  case atStart => exact ⟨0, by omega, by omega, rfl, hT0, by omega, hb2⟩
  case round =>
    clear hT0 hb2 hs2
    obtain ⟨j, hj, rfl, rfl, hT, hsz, hBw⟩ := hrel
    by_cases hlt : j < n
    · have had : ad = ⟨b, off, none⟩ := by have := h0.at_ (by omega); simpa using this
      subst had
      have hc : wr.cell? ⟨b, off + j, none⟩ = some (.slice (aA j) (lA j) (cA j)) := (hBw.cell (p := ⟨b, off + j, none⟩) (h0.lt (by omega))).trans (h0.cell j hlt)
      have hl0 : (0 : Int) ≤ (j : Int) := by omega
      have hl1 : (j : Int) < (n : Int) := by omega
      have hIj := (hI j hlt).below hBw
      have HN : Hid (aA j = none → lA j = 0 ∧ cA j = 0) := hN j hlt
      have hlj := hl j hlt
      go_wp2_with (go_at_call 10; refine (cloneRuns_any (aA j) (lA j) (cA j) (bA j) (oA j) (R j) _ hlj HN.out hIj).mono ?_; rintro e w5 ⟨a5, c5, b5, rfl, hB5, hO5, hN5, hb5⟩; obtain ⟨⟨x5, hx5⟩, hf5⟩ := hT.at hb5 hlt)
      have HO : Hid _ := hO5
      have HN5 : Hid _ := hN5
      go_roundg (n - (j + 1))
      case measure => omega
      case rel =>
        have hs5 := hb5.size
        have hex := Ex.made (g := w.heap.size) hb5 j (.slice a5 (lA j) c5)
        have hex5 : Ex (fun k => k = w.heap.size) w5 (w5.setCell ⟨w.heap.size, j, none⟩ (.slice a5 (lA j) c5)) := Ex.made (Below.refl _ w5) j _
        have hne : 0 < lA j → ¬ b5 = w.heap.size := fun h => by have := (HO.out h).1; omega
        refine ⟨j + 1, by omega, rfl, by go_num, hT.step hb5 hlt (fun q u hq => RnOk.ex hq hex (fun k hk => by omega)) ?_, by simp; omega, (hBw.trans (hb5.mono (by omega))).setCell (by simp) _⟩
        exact ⟨a5, c5, b5, rfl, hB5.ex hex5 hne, fun h => ⟨by have := (HO.out h).1; omega, (HO.out h).2.ex hex5 (hne h)⟩, HN5.out⟩
    · obtain rfl : j = n := by omega
      go_wp2
      go_ret
      exact ⟨_, _, w.heap.size, rfl, fun _ => ⟨rfl, Nat.le_refl _, hT⟩, hBw⟩

set_option maxHeartbeats 400000 in
theorem cloneTexts_nil (w : World) (lA : Nat → Nat) (B : Nat → Nat → Int) : Calls Try.prog 15 #[.slice none 0 0] w (CloneT w 0 lA B) := by
  have hq27 := fun (W : World) => Lib.run_eql_slice_nil (P := Try.prog) W 27 22 none 0 0 0 0 Try.underlying27
  simp only [Option.isNone_none] at hq27
  go_enter Try.func15, Try.ntmps15
  go_wp2
  go_ret
  exact ⟨none, 0, 0, rfl, fun h => by omega, Below.refl _ _⟩
set_option maxHeartbeats 400000 in
theorem cloneLists_nil (w : World) (lR : Nat → Nat) (R : Nat → Nat → RunZ) : Calls Try.prog 16 #[.slice none 0 0] w (CloneL w 0 lR R) := by
  have hq46 := fun (W : World) => Lib.run_eql_slice_nil (P := Try.prog) W 46 23 none 0 0 0 0 Try.underlying46
  simp only [Option.isNone_none] at hq46
  go_enter Try.func16, Try.ntmps16
  go_wp2
  go_ret
  exact ⟨none, 0, 0, rfl, fun h => by omega, Below.refl _ _⟩

/-- A row of byte slices that has been cloned, opened. -/
theorem rowP_open {P : Nat → World → Value → Prop} {lA : Nat → Nat} {w : World} {g t n : Nat} (h : RowP P w g t n n) (Q : Nat → Option Addr → Nat → Nat → Prop)
    (hP : ∀ q v, q < n → P q w v → ∃ a c b, v = .slice a (lA q) c ∧ Q q a c b) : ∃ (aA : Nat → Option Addr) (cA bA : Nat → Nat), (∀ i, i < n → w.cell? ⟨g, i, none⟩ = some (.slice (aA i) (lA i) (cA i))) ∧ ∀ i, i < n → Q i (aA i) (cA i) (bA i) := by
  obtain ⟨L, h1, h2, h3⟩ := h
  have key : ∀ i, ∃ q : Option Addr × Nat × Nat, i < n → w.cell? ⟨g, i, none⟩ = some (.slice q.1 (lA i) q.2.1) ∧ Q i q.1 q.2.1 q.2.2 := by
    intro i
    by_cases hi : i < n
    · obtain ⟨v, h4, h5⟩ := h3 i hi
      obtain ⟨a, c, b, rfl, h6⟩ := hP i v hi h5
      exact ⟨(a, c, b), fun _ => ⟨by rw [h1.cell]; exact h4, h6⟩⟩
    · exact ⟨(none, 0, 0), fun h => absurd h hi⟩
  exact ⟨fun i => (key i).choose.1, fun i => (key i).choose.2.1, fun i => (key i).choose.2.2, fun i hi => ((key i).choose_spec hi).1, fun i hi => ((key i).choose_spec hi).2⟩
end Go.Proofs.Qxb6604013a
