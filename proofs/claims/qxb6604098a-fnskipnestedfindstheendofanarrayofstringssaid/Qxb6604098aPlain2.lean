/-
  Quoted text and what the walker makes of it: no Go in sight.
-/
import Derived.Test.Qxb6604098aQuote
namespace Go.Proofs.Qxb6604098a

/-- From place p on the bytes are the list ys. -/
def Lies (B : Nat → Int) (p : Nat) (ys : List Int) : Prop := ∀ i v, ys[i]? = some v → B (p + i) = v
theorem Lies.left {B : Nat → Int} {p : Nat} {xs ys : List Int} (h : Lies B p (xs ++ ys)) : Lies B p xs := fun i v hv => h i v (by
  rw [List.getElem?_append_left (List.getElem?_eq_some_iff.1 hv).1]; exact hv)
theorem Lies.right {B : Nat → Int} {p : Nat} {xs ys : List Int} (h : Lies B p (xs ++ ys)) : Lies B (p + xs.length) ys := fun i v hv => by
  rw [Nat.add_assoc]
  refine h (xs.length + i) v ?_
  rw [List.getElem?_append_right (by omega), Nat.add_sub_cancel_left]; exact hv
theorem Lies.at {B : Nat → Int} {p q : Nat} {ys : List Int} (h : Lies B p ys) (e : p = q) : Lies B q ys := e ▸ h
theorem Lies.head {B : Nat → Int} {p : Nat} {y : Int} {ys : List Int} (h : Lies B p (y :: ys)) : B p = y := h 0 y rfl
theorem Lies.tail {B : Nat → Int} {p : Nat} {y : Int} {ys : List Int} (h : Lies B p (y :: ys)) : Lies B (p + 1) ys := fun i v hv => by
  rw [Nat.add_assoc, Nat.add_comm 1 i]; exact h (i + 1) v hv
theorem Lies.of (xs : List Int) : Lies (fun i => xs.getD i 0) 0 xs := fun i v hv => by simp [hv]

theorem qs_pre (C : Nat → Int) (j : Nat) : ∀ m, j < m → ∃ r, qs C m = qs C j ++ (qb (C j) ++ r)
  | m + 1, h => by
    rw [qs_succ]
    rcases Nat.lt_or_ge j m with h' | h'
    · obtain ⟨r, hr⟩ := qs_pre C j m h'
      exact ⟨r ++ qb (C m), by rw [hr]; simp⟩
    · obtain rfl : j = m := by omega
      exact ⟨[], by simp⟩

/-- Does a byte that must be escaped lie among the first m? -/
def hbn (C : Nat → Int) (m : Nat) : Bool := (List.range m).any fun i => C i == 34 || C i == 92
theorem hbn_succ (C : Nat → Int) (m : Nat) : hbn C (m + 1) = (hbn C m || (C m == 34 || C m == 92)) := by simp [hbn, List.range_succ]
theorem hbn_yes (C : Nat → Int) {m j : Nat} (h : j < m) (hc : C j = 34 ∨ C j = 92) : hbn C m = true := by
  simp [hbn]; exact ⟨j, h, hc⟩

theorem qs_step {B C : Nat → Int} {p m n : Nat} (h : Lies B p (qs C m)) (hn : p + (qs C m).length ≤ n) {j : Nat} (hj : j < m) :
    ∃ q, q = p + (qs C j).length ∧ q < n ∧ ((C j = 34 ∨ C j = 92) → B q = 92 ∧ p + (qs C (j + 1)).length = q + 2) ∧ (¬ (C j = 34 ∨ C j = 92) → B q = C j ∧ p + (qs C (j + 1)).length = q + 1) := by
  obtain ⟨r, hr⟩ := qs_pre C j m hj
  have h1 := qb_length (C j)
  have hl : (qs C m).length = (qs C j).length + ((qb (C j)).length + r.length) := by rw [hr]; simp
  rw [hr] at h
  have h2 := h.right.left
  refine ⟨_, rfl, by omega, fun hc => ?_, fun hc => ?_⟩
  · rw [qb, if_pos hc] at h2
    refine ⟨h2.head, ?_⟩
    rw [qs_succ, List.length_append, qb, if_pos hc]; simp; omega
  · rw [qb, if_neg hc] at h2
    refine ⟨h2.head, ?_⟩
    rw [qs_succ, List.length_append, qb, if_neg hc]; simp; omega

theorem g_qs {B C : Nat → Int} {p m n : Nat} (h : Lies B p (qs C m)) (hn : p + (qs C m).length ≤ n) : ∀ j, j ≤ m → g B n p = g B n (p + (qs C j).length)
  | 0, _ => by simp [qs]
  | j + 1, hj => by
    rw [g_qs h hn j (by omega)]
    obtain ⟨q, hq, hqn, h1, h2⟩ := qs_step h hn (j := j) (by omega)
    rw [← hq]
    by_cases hc : C j = 34 ∨ C j = 92
    · rw [(h1 hc).2, g_back B hqn (h1 hc).1]
    · have := h2 hc
      rw [this.2, g_other B hqn (by omega) (by omega)]

theorem ge_qs {B C : Nat → Int} {p m n : Nat} (h : Lies B p (qs C m)) (hn : p + (qs C m).length ≤ n) : ∀ j, j ≤ m → (hbn C j = false → ge B n p = ge B n (p + (qs C j).length)) ∧ (hbn C j = true → ge B n p = true)
  | 0, _ => by simp [qs, hbn]
  | j + 1, hj => by
    have ih := ge_qs h hn j (by omega)
    obtain ⟨q, hq, hqn, h1, h2⟩ := qs_step h hn (j := j) (by omega)
    rw [hbn_succ]
    cases hb : hbn C j with
    | true => exact ⟨(fun h => by simp at h), fun _ => ih.2 hb⟩
    | false =>
      have ih1 := ih.1 hb
      rw [← hq] at ih1
      by_cases hc : C j = 34 ∨ C j = 92
      · have e : (false || (C j == 34 || C j == 92)) = true := by simp [hc]
        rw [e]
        exact ⟨(fun h => by cases h), fun _ => by rw [ih1, ge_back B hqn (h1 hc).1]⟩
      · have e : (false || (C j == 34 || C j == 92)) = false := by simp; omega
        have := h2 hc
        rw [e]
        exact ⟨(fun _ => by rw [ih1, this.2, ge_other B hqn (by omega) (by omega)]), fun h => by cases h⟩

theorem g_str {B C : Nat → Int} {p m n : Nat} (h : Lies B p (qs C m ++ [34])) (hn : p + (qs C m).length + 1 ≤ n) : g B n p = p + (qs C m).length + 1 := by
  rw [g_qs (n := n) h.left (by omega) m (Nat.le_refl _), g_quote B (i := p + (qs C m).length) (by omega) h.right.head]
theorem ge_str {B C : Nat → Int} {p m n : Nat} (h : Lies B p (qs C m ++ [34])) (hn : p + (qs C m).length + 1 ≤ n) : ge B n p = hbn C m := by
  have := ge_qs (n := n) h.left (by omega) m (Nat.le_refl _)
  cases hb : hbn C m with
  | true => exact this.2 hb
  | false => rw [this.1 hb, ge_quote B (i := p + (qs C m).length) (by omega) h.right.head]
theorem ws_lead {B : Nat → Int} {L n : Nat} (hn : L < n) (hB : B L = 34) (h : ∀ i, i < L → spaceB (B i) = true) : ws B n 0 = L := by
  have : ∀ j, j ≤ L → ws B n 0 = ws B n j := by
    intro j
    induction j with
    | zero => intro _; rfl
    | succ j ih => intro hj; rw [ih (by omega), ws_yes B (by omega) (h j (by omega))]
  rw [this L (Nat.le_refl _), ws_no B (fun _ => by rw [hB]; rfl)]

/-- The whole: white space, a quoted string, a tail. -/
theorem quoted_law (A C : Nat → Int) (l0 l1 n : Nat) (T xs : List Int) (hxs : xs = ((List.range l0).map A ++ (34 :: (qs C l1 ++ [34]))) ++ T) (hn : n = xs.length) (hA : ∀ i, i < l0 → spaceB (A i) = true) :
    ws (fun i => xs.getD i 0) n 0 = l0 ∧ ge (fun i => xs.getD i 0) n (l0 + 1) = hbn C l1 ∧ g (fun i => xs.getD i 0) n (l0 + 1) = l0 + ((qs C l1).length + 2) := by
  have h0 := Lies.of xs
  generalize (fun i => xs.getD i 0) = B at h0 ⊢
  have hlen : n = l0 + ((qs C l1).length + 2) + T.length := by rw [hn, hxs]; simp; omega
  rw [hxs] at h0
  have hlead := h0.left.left
  have hq := h0.left.right
  have e : 0 + ((List.range l0).map A).length = l0 := by simp
  rw [e] at hq
  have hq2 := hq.tail
  refine ⟨ws_lead (by omega) hq.head (fun i hi => ?_), ge_str hq2 (by omega), ?_⟩
  · have := hlead i (A i) (by simp [hi])
    rw [Nat.zero_add] at this
    rw [this]; exact hA i hi
  · rw [g_str hq2 (by omega)]; omega
end Go.Proofs.Qxb6604098a
