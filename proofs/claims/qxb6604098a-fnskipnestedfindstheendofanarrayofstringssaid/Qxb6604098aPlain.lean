/-
  What the walker computes, as plain functions on bytes B 0, B 1, .. B (n - 1): no Go in sight.
-/
import Derived.WalkKit
namespace Go.Proofs.Qxb6604098a

def spaceB (c : Int) : Bool := c == 32 || c == 9 || c == 10 || c == 13
theorem spaceB_yes {c : Int} (h : c = 32 ∨ c = 9 ∨ c = 10 ∨ c = 13) : spaceB c = true := by
  rcases h with rfl | rfl | rfl | rfl <;> rfl
theorem spaceB_no {c : Int} (h1 : c ≠ 32) (h2 : c ≠ 9) (h3 : c ≠ 10) (h4 : c ≠ 13) : spaceB c = false := by simp [spaceB, h1, h2, h3, h4]

/-- The first place from i on that is no white space. -/
def wsF (B : Nat → Int) (n : Nat) : Nat → Nat → Nat
  | 0, i => i
  | f + 1, i => if i < n ∧ spaceB (B i) = true then wsF B n f (i + 1) else i
def ws (B : Nat → Int) (n i : Nat) : Nat := wsF B n (n - i) i
theorem ws_yes (B : Nat → Int) {n i : Nat} (h : i < n) (hs : spaceB (B i) = true) : ws B n i = ws B n (i + 1) := by
  unfold ws
  obtain ⟨f, hf⟩ : ∃ f, n - i = f + 1 := ⟨n - i - 1, by omega⟩
  rw [hf, show n - (i + 1) = f by omega, wsF, if_pos ⟨h, hs⟩]
theorem ws_no (B : Nat → Int) {n i : Nat} (hs : i < n → spaceB (B i) = false) : ws B n i = i := by
  unfold ws
  cases hf : n - i with
  | zero => rfl
  | succ f => rw [wsF, if_neg]; rintro ⟨h, h2⟩; rw [hs h] at h2; cases h2
theorem ws_end (B : Nat → Int) {n i : Nat} (h : n ≤ i) : ws B n i = i := ws_no B (fun h' => by omega)
theorem ws_ge (B : Nat → Int) (n : Nat) : ∀ f i, i ≤ wsF B n f i ∧ (i ≤ n → wsF B n f i ≤ n)
  | 0, i => ⟨Nat.le_refl _, fun h => h⟩
  | f + 1, i => by
    rw [wsF]
    split
    · rename_i h
      have := ws_ge B n f (i + 1)
      exact ⟨by omega, fun _ => this.2 (by omega)⟩
    · exact ⟨Nat.le_refl _, fun h => h⟩
theorem ws_bounds (B : Nat → Int) (n i : Nat) : i ≤ ws B n i ∧ (i ≤ n → ws B n i ≤ n) := ws_ge B n _ i

/-- Where the string ends whose body is read from i on. -/
def gF (B : Nat → Int) (n : Nat) : Nat → Nat → Nat
  | 0, i => i
  | f + 1, i => if i < n then (if B i = 92 then gF B n f (i + 2) else if B i = 34 then i + 1 else gF B n f (i + 1)) else i
theorem gF_enough (B : Nat → Int) (n : Nat) : ∀ f f' i, n - i ≤ f → n - i ≤ f' → gF B n f i = gF B n f' i
  | 0, 0, _, _, _ => rfl
  | 0, f' + 1, i, h, _ => by rw [gF, gF, if_neg (by omega)]
  | f + 1, 0, i, _, h => by rw [gF, gF, if_neg (by omega)]
  | f + 1, f' + 1, i, h, h' => by
    rw [gF, gF]
    split
    · rw [gF_enough B n f f' (i + 2) (by omega) (by omega), gF_enough B n f f' (i + 1) (by omega) (by omega)]
    · rfl
def g (B : Nat → Int) (n i : Nat) : Nat := gF B n (n - i) i
theorem g_end (B : Nat → Int) {n i : Nat} (h : n ≤ i) : g B n i = i := by unfold g; rw [show n - i = 0 by omega]; rfl
theorem g_step (B : Nat → Int) {n i : Nat} (h : i < n) : g B n i = if B i = 92 then g B n (i + 2) else if B i = 34 then i + 1 else g B n (i + 1) := by
  unfold g
  obtain ⟨f, hf⟩ : ∃ f, n - i = f + 1 := ⟨n - i - 1, by omega⟩
  rw [hf, gF, if_pos h, gF_enough B n f (n - (i + 2)) (i + 2) (by omega) (by omega), gF_enough B n f (n - (i + 1)) (i + 1) (by omega) (by omega)]
theorem g_back (B : Nat → Int) {n i : Nat} (h : i < n) (hc : B i = 92) : g B n i = g B n (i + 2) := by rw [g_step B h, if_pos hc]
theorem g_quote (B : Nat → Int) {n i : Nat} (h : i < n) (hc : B i = 34) : g B n i = i + 1 := by rw [g_step B h, if_neg (by omega), if_pos hc]
theorem g_other (B : Nat → Int) {n i : Nat} (h : i < n) (h1 : B i ≠ 92) (h2 : B i ≠ 34) : g B n i = g B n (i + 1) := by rw [g_step B h, if_neg h1, if_neg h2]
theorem gF_ge (B : Nat → Int) (n : Nat) : ∀ f i, i ≤ gF B n f i
  | 0, i => Nat.le_refl _
  | f + 1, i => by
    rw [gF]
    have h1 := gF_ge B n f (i + 2)
    have h2 := gF_ge B n f (i + 1)
    split
    · split
      · omega
      · split <;> omega
    · exact Nat.le_refl _
theorem g_ge (B : Nat → Int) (n i : Nat) : i ≤ g B n i := gF_ge B n _ i
theorem gF_le (B : Nat → Int) (n : Nat) : ∀ f i, i ≤ n + 1 → gF B n f i ≤ n + 1
  | 0, i, h => h
  | f + 1, i, h => by
    rw [gF]
    split
    · have h1 := gF_le B n f (i + 2) (by omega)
      have h2 := gF_le B n f (i + 1) (by omega)
      split
      · exact h1
      · split
        · omega
        · exact h2
    · exact h
theorem g_le (B : Nat → Int) (n i : Nat) (h : i ≤ n + 1) : g B n i ≤ n + 1 := gF_le B n _ i h

/-- Does an escape lie between i and the string's end? -/
def geF (B : Nat → Int) (n : Nat) : Nat → Nat → Bool
  | 0, _ => false
  | f + 1, i => if i < n then (if B i = 92 then true else if B i = 34 then false else geF B n f (i + 1)) else false
def ge (B : Nat → Int) (n i : Nat) : Bool := geF B n (n - i) i
theorem ge_end (B : Nat → Int) {n i : Nat} (h : n ≤ i) : ge B n i = false := by unfold ge; rw [show n - i = 0 by omega]; rfl
theorem ge_step (B : Nat → Int) {n i : Nat} (h : i < n) : ge B n i = if B i = 92 then true else if B i = 34 then false else ge B n (i + 1) := by
  unfold ge
  obtain ⟨f, hf⟩ : ∃ f, n - i = f + 1 := ⟨n - i - 1, by omega⟩
  rw [hf, geF, if_pos h, show n - (i + 1) = f by omega]
theorem ge_back (B : Nat → Int) {n i : Nat} (h : i < n) (hc : B i = 92) : ge B n i = true := by rw [ge_step B h, if_pos hc]
theorem ge_quote (B : Nat → Int) {n i : Nat} (h : i < n) (hc : B i = 34) : ge B n i = false := by rw [ge_step B h, if_neg (by omega), if_pos hc]
theorem ge_other (B : Nat → Int) {n i : Nat} (h : i < n) (h1 : B i ≠ 92) (h2 : B i ≠ 34) : ge B n i = ge B n (i + 1) := by rw [ge_step B h, if_neg h1, if_neg h2]

/-- What one byte outside strings does to the depth. -/
def dd (c d : Int) : Int := if c = 123 ∨ c = 91 then d + 1 else if c = 125 ∨ c = 93 then d - 1 else d
theorem dd_up {c : Int} (d : Int) (h : c = 123 ∨ c = 91) : dd c d = d + 1 := if_pos h
theorem dd_down {c : Int} (d : Int) (h : c = 125 ∨ c = 93) : dd c d = d - 1 := by unfold dd; rw [if_neg (by omega), if_pos h]
theorem dd_same {c : Int} (d : Int) (h1 : c ≠ 123) (h2 : c ≠ 91) (h3 : c ≠ 125) (h4 : c ≠ 93) : dd c d = d := by unfold dd; rw [if_neg (by omega), if_neg (by omega)]

/-- Where skipNested stands in the end, begun at i with depth d. -/
def hF (B : Nat → Int) (n : Nat) : Nat → Nat → Int → Nat
  | 0, i, _ => i
  | f + 1, i, d => if i < n then (if B i = 34 then hF B n f (g B n (i + 1)) d else if dd (B i) d = 0 then i + 1 else hF B n f (i + 1) (dd (B i) d)) else i
theorem hF_enough (B : Nat → Int) (n : Nat) : ∀ f f' i d, n - i ≤ f → n - i ≤ f' → hF B n f i d = hF B n f' i d
  | 0, 0, _, _, _, _ => rfl
  | 0, f' + 1, i, d, h, _ => by rw [hF, hF, if_neg (by omega)]
  | f + 1, 0, i, d, _, h => by rw [hF, hF, if_neg (by omega)]
  | f + 1, f' + 1, i, d, h, h' => by
    rw [hF, hF]
    have hg := g_ge B n (i + 1)
    split
    · rw [hF_enough B n f f' (g B n (i + 1)) d (by omega) (by omega), hF_enough B n f f' (i + 1) (dd (B i) d) (by omega) (by omega)]
    · rfl
def hh (B : Nat → Int) (n i : Nat) (d : Int) : Nat := hF B n (n - i) i d
theorem hh_end (B : Nat → Int) {n i : Nat} (d : Int) (h : n ≤ i) : hh B n i d = i := by unfold hh; rw [show n - i = 0 by omega]; rfl
theorem hh_step (B : Nat → Int) {n i : Nat} (d : Int) (h : i < n) : hh B n i d = if B i = 34 then hh B n (g B n (i + 1)) d else if dd (B i) d = 0 then i + 1 else hh B n (i + 1) (dd (B i) d) := by
  unfold hh
  obtain ⟨f, hf⟩ : ∃ f, n - i = f + 1 := ⟨n - i - 1, by omega⟩
  have hg := g_ge B n (i + 1)
  rw [hf, hF, if_pos h, hF_enough B n f (n - g B n (i + 1)) _ d (by omega) (by omega), hF_enough B n f (n - (i + 1)) (i + 1) _ (by omega) (by omega)]
theorem hh_quote (B : Nat → Int) {n i : Nat} (d : Int) (h : i < n) (hc : B i = 34) : hh B n i d = hh B n (g B n (i + 1)) d := by rw [hh_step B d h, if_pos hc]
theorem hh_stop (B : Nat → Int) {n i : Nat} (d : Int) (h : i < n) (hc : B i ≠ 34) (hd : dd (B i) d = 0) : hh B n i d = i + 1 := by rw [hh_step B d h, if_neg hc, if_pos hd]
theorem hh_on (B : Nat → Int) {n i : Nat} (d : Int) (h : i < n) (hc : B i ≠ 34) (hd : dd (B i) d ≠ 0) : hh B n i d = hh B n (i + 1) (dd (B i) d) := by rw [hh_step B d h, if_neg hc, if_neg hd]
end Go.Proofs.Qxb6604098a
