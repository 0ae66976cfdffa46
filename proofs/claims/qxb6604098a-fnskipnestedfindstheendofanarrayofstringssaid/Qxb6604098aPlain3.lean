/-
  A nest of arrays of strings, and where it ends: no Go in sight.
-/
import Derived.Test.Qxb6604098aPlain2
namespace Go.Proofs.Qxb6604098a

/-- The sum of the first i lengths. -/
def su (l : Nat → Nat) : Nat → Nat
  | 0 => 0
  | i + 1 => su l i + l i
theorem su_succ (l : Nat → Nat) (i : Nat) : su l (i + 1) = su l i + l i := rfl
theorem su_mono (l : Nat → Nat) {i : Nat} : ∀ j, i ≤ j → su l i ≤ su l j
  | 0, h => by obtain rfl : i = 0 := by omega
               exact Nat.le_refl _
  | j + 1, h => by
    rcases Nat.lt_or_ge i (j + 1) with h' | h'
    · have := su_mono l j (by omega : i ≤ j); rw [su_succ]; omega
    · obtain rfl : i = j + 1 := by omega
      exact Nat.le_refl _
theorem su_at (l : Nat → Nat) {i j : Nat} (h : i < j) : su l i + l i ≤ su l j := su_mono l j h

/-- Item i as it is written. -/
def it (C : Nat → Nat → Int) (l : Nat → Nat) (i : Nat) : List Int := (if i = 0 then [] else [44]) ++ (34 :: (qs (C i) (l i) ++ [34]))
def js (C : Nat → Nat → Int) (l : Nat → Nat) : Nat → List Int
  | 0 => []
  | i + 1 => js C l i ++ it C l i
theorem js_succ (C : Nat → Nat → Int) (l : Nat → Nat) (i : Nat) : js C l (i + 1) = js C l i ++ it C l i := rfl
theorem it_length (C : Nat → Nat → Int) (l : Nat → Nat) (i : Nat) : (it C l i).length ≤ 2 * l i + 3 := by
  have := (qs_length (C i) (l i)).2
  unfold it
  split <;> simp <;> omega
theorem js_length (C : Nat → Nat → Int) (l : Nat → Nat) (i : Nat) : (js C l i).length ≤ 2 * su l i + 3 * i := by
  induction i with
  | zero => simp [js]
  | succ i ih => rw [js_succ, List.length_append, su_succ]; have := it_length C l i; omega
theorem js_pre (C : Nat → Nat → Int) (l : Nat → Nat) (j : Nat) : ∀ m, j < m → ∃ r, js C l m = js C l j ++ (it C l j ++ r)
  | m + 1, h => by
    rw [js_succ]
    rcases Nat.lt_or_ge j m with h' | h'
    · obtain ⟨r, hr⟩ := js_pre C l j m h'
      exact ⟨r ++ it C l m, by rw [hr]; simp⟩
    · obtain rfl : j = m := by omega
      exact ⟨[], by simp⟩

theorem rep_get {m j : Nat} (c : Int) (h : j < m) : (List.replicate m c)[j]? = some c := by rw [List.getElem?_replicate, if_pos h]

theorem hh_open {B : Nat → Int} {n m : Nat} (h : Lies B 0 (List.replicate m 91)) (hn : m ≤ n) : ∀ j : Nat, j ≤ m → hh B n 0 0 = hh B n j (j : Int)
  | 0, _ => rfl
  | j + 1, hj => by
    have hb : B j = 91 := by have := h j 91 (rep_get _ (by omega)); rwa [Nat.zero_add] at this
    have hd : dd (B j) (j : Int) = ((j + 1 : Nat) : Int) := by rw [hb, dd_up _ (.inr rfl)]; omega
    rw [hh_open h hn j (by omega), hh_on B _ (by omega) (by rw [hb]; decide) (by rw [hd]; omega), hd]

theorem hh_item {B : Nat → Int} {n p i : Nat} {d : Int} {C : Nat → Nat → Int} {l : Nat → Nat} (hd : d ≠ 0) (h : Lies B p (it C l i)) (hn : p + (it C l i).length ≤ n) : hh B n p d = hh B n (p + (it C l i).length) d := by
  have key : ∀ q, Lies B q (34 :: (qs (C i) (l i) ++ [34])) → q + ((qs (C i) (l i)).length + 2) ≤ n → hh B n q d = hh B n (q + ((qs (C i) (l i)).length + 2)) d := fun q hq hqn => by
    rw [hh_quote B d (by omega) hq.head, g_str hq.tail (by omega)]
    congr 1; omega
  unfold it at h hn ⊢
  by_cases h0 : i = 0
  · rw [if_pos h0] at h hn ⊢
    rw [List.nil_append] at h hn ⊢
    have e : (34 :: (qs (C i) (l i) ++ [34])).length = (qs (C i) (l i)).length + 2 := by simp
    rw [e] at hn ⊢
    exact key p h hn
  · rw [if_neg h0] at h hn ⊢
    have e : ([44] ++ (34 :: (qs (C i) (l i) ++ [34]))).length = (qs (C i) (l i)).length + 2 + 1 := by simp
    rw [e] at hn ⊢
    have hb : B p = 44 := h.head
    have hdd : dd (B p) d = d := by rw [hb]; exact dd_same d (by decide) (by decide) (by decide) (by decide)
    rw [hh_on B d (by omega) (by rw [hb]; decide) (by rw [hdd]; exact hd), hdd, key (p + 1) h.tail (by omega)]
    congr 1; omega

theorem hh_items {B : Nat → Int} {n p m : Nat} {d : Int} {C : Nat → Nat → Int} {l : Nat → Nat} (hd : d ≠ 0) (h : Lies B p (js C l m)) (hn : p + (js C l m).length ≤ n) : ∀ i, i ≤ m → hh B n p d = hh B n (p + (js C l i).length) d
  | 0, _ => rfl
  | i + 1, hi => by
    obtain ⟨r, hr⟩ := js_pre C l i m (by omega)
    have hl : (js C l m).length = (js C l i).length + ((it C l i).length + r.length) := by rw [hr]; simp
    have h2 : Lies B (p + (js C l i).length) (it C l i) := by rw [hr] at h; exact h.right.left
    rw [hh_items hd h hn i (by omega), hh_item hd h2 (by omega), js_succ, List.length_append, Nat.add_assoc]

theorem hh_shut {B : Nat → Int} {n q m : Nat} (h : Lies B q (List.replicate (m + 1) 93)) (hn : q + (m + 1) ≤ n) : hh B n q ((m + 1 : Nat) : Int) = q + (m + 1) := by
  have hb : ∀ j, j < m + 1 → B (q + j) = 93 := fun j hj => h j 93 (rep_get _ hj)
  have : ∀ j, j ≤ m → hh B n q ((m + 1 : Nat) : Int) = hh B n (q + j) ((m + 1 - j : Nat) : Int) := by
    intro j
    induction j with
    | zero => intro _; rfl
    | succ j ih =>
      intro hj
      have hd : dd (B (q + j)) ((m + 1 - j : Nat) : Int) = ((m + 1 - (j + 1) : Nat) : Int) := by rw [hb j (by omega), dd_down _ (.inr rfl)]; omega
      rw [ih (by omega), hh_on B _ (by omega) (by rw [hb j (by omega)]; decide) (by rw [hd]; omega), hd]; rfl
  rw [this m (Nat.le_refl _), hh_stop B _ (by omega) (by rw [hb m (by omega)]; decide) (by rw [hb m (by omega), dd_down _ (.inr rfl)]; omega)]
  omega

/-- The whole. -/
theorem array_law (C : Nat → Nat → Int) (l : Nat → Nat) (m k n : Nat) (T xs : List Int) (hxs : xs = ((List.replicate (m + 1) 91 ++ js C l k) ++ List.replicate (m + 1) 93) ++ T) (hn : n = xs.length) :
    hh (fun i => xs.getD i 0) n 0 0 = (m + 1) + (js C l k).length + (m + 1) := by
  have h0 := Lies.of xs
  generalize (fun i => xs.getD i 0) = B at h0 ⊢
  have hlen : n = (m + 1) + (js C l k).length + (m + 1) + T.length := by rw [hn, hxs]; simp; omega
  rw [hxs] at h0
  have h1 := h0.left.left.left
  have h2 := h0.left.left.right
  have h3 := h0.left.right
  have e2 : 0 + (List.replicate (m + 1) (91 : Int)).length = m + 1 := by simp
  have e3 : 0 + (List.replicate (m + 1) (91 : Int) ++ js C l k).length = m + 1 + (js C l k).length := by simp
  rw [e2] at h2
  rw [e3] at h3
  rw [hh_open (n := n) h1 (by omega) (m + 1) (Nat.le_refl _), hh_items (n := n) (by omega) h2 (by omega) k (Nat.le_refl _), hh_shut (n := n) h3 (by omega)]
end Go.Proofs.Qxb6604098a
