import Derived.Test.Qxb6604013aScript2
import Derived.Test.Qxb6604013aMatch2
namespace Go.Proofs.Qxb6604013a
open Go.RowKit
set_option linter.unusedVariables false
set_option linter.unusedSimpArgs false
attribute [local go_sem ↓] Go.wp_at_zero Go.wp_at_succ

set_option maxHeartbeats 400000 in
theorem valid_dec (a0 a1 : Option Addr) (lenT c0 n c1 b off : Nat) (R : Nat → RunZ) (t : Bool) (w : World) (hlT : lenT ≤ 1048576) (hn : n ≤ 1048576) (hR : IsRuns w a1 n b off R) (ht : t = true ↔ Valid lenT n R) :
    Calls Try.prog 8 #[.slice a0 lenT c0, .slice a1 n c1] w fun e w' => e = .returned (.bool t) ∧ w = w' := by
  have HTV : Hid (t = true ↔ Valid lenT n R) := ht
  clear ht
  go_enter Try.func8, Try.ntmps8
  go_wp2
  go_loopg [5, 6] n (fun k p i wr => ∃ j : Nat, j ≤ n ∧ k = n - j ∧ i = .int .i64 j ∧ p = .int .i32 (before R j) ∧ Valid lenT j R ∧ w = wr)
  case atStart => exact ⟨0, by omega, by omega, rfl, rfl, fun i hi => by omega, rfl⟩
  case round =>
    obtain ⟨j, hj, rfl, rfl, rfl, hv, rfl⟩ := hrel
    by_cases hlt : j < n
    · obtain rfl := hR.1 (by omega)
      obtain ⟨hr, hlo, hhi⟩ := hR.2 j hlt
      have hc : w.cell? ⟨b, off + j * 4, none⟩ = some (.int .i32 (R j).1) := hr 0 _ rfl
      have hl0 : (0 : Int) ≤ (j : Int) := by omega
      have hl1 : (j : Int) < (n : Int) := by omega
      have HV : Hid _ := hv
      clear hr hv hR
      by_cases hp : before R j ≤ (R j).1
      · by_cases hq : (R j).1 ≤ lenT
        · have hd : decide ((R j).1 < before R j) = false := decide_eq_false (by omega)
          go_wp2
          go_roundg (n - (j + 1))
          case measure => omega
          case rel =>
            refine ⟨j + 1, by omega, rfl, by go_num, by rw [before_succ], fun i hi => ?_, rfl⟩
            by_cases e : i = j
            · subst e; exact ⟨hp, hq⟩
            · exact HV.out i (by omega)
        · have hd : decide ((R j).1 < before R j) = false := decide_eq_false (by omega)
          obtain rfl : t = false := by
            cases t with
            | false => rfl
            | true => exact absurd ((HTV.out.1 rfl) j hlt).2 hq
          go_wp2
          go_ret
          exact ⟨rfl, rfl⟩
      · obtain rfl : t = false := by
          cases t with
          | false => rfl
          | true => exact absurd ((HTV.out.1 rfl) j hlt).1 hp
        go_wp2
        go_ret
        exact ⟨rfl, rfl⟩
    · obtain rfl : j = n := by omega
      obtain rfl : t = true := HTV.out.2 hv
      go_wp2
      go_ret
      exact ⟨rfl, rfl⟩

/-- Where a line lies. -/
structure LRec where
  gt : Nat
  kt : Nat
  gr : Nat
  kr : Nat
  A : Nat → Nat

/-- The line that add made of (B, R) lies at r, inside the chunks. -/
structure LineQ (w : World) (N lT n : Nat) (R : Nat → RunZ) (B : Nat → Int) (r : LRec) (ckT ckR : List Ck) : Prop where
  geT : N ≤ r.gt
  geR : N ≤ r.gr
  inT : ∃ u cap, (r.gt, u, cap) ∈ ckT ∧ r.kt + lT ≤ u
  inR : ∃ u cap, (r.gr, u, cap) ∈ ckR ∧ r.kr + n ≤ u
  txt : ∀ i, i < lT → w.cell? ⟨r.gt, r.kt + i, none⟩ = some (.int .u8 (B i))
  run : ∀ i, i < n → w.rangeAt r.gr ((r.kr + i) * 4) (rcell r.gt r.A R i) ∧ (0 < rlen R i → r.A i = r.kt + (before R i).toNat)

theorem LineQ.ex {w w' : World} {N lT n : Nat} {R : Nat → RunZ} {B : Nat → Int} {r : LRec} {ckT ckR : List Ck} {S : Nat → Prop} (h : LineQ w N lT n R B r ckT ckR) (hx : Ex S w w') (hS : ∀ k, S k → k < N) : LineQ w' N lT n R B r ckT ckR := by
  refine ⟨h.geT, h.geR, h.inT, h.inR, fun i hi => ?_, fun i hi => ⟨fun q v hv => ?_, (h.run i hi).2⟩⟩
  · have h1 := h.txt i hi
    exact (World.cell?_of_block (w := w) (w' := w') (a := ⟨r.gt, r.kt + i, none⟩) (hx.block r.gt (World.block_lt_of_cell? w ⟨r.gt, _, none⟩ h1) (fun hs => by have := hS _ hs; have := h.geT; omega))).trans h1
  · have h1 := (h.run i hi).1 q v hv
    exact (World.cell?_of_block (w := w) (w' := w') (a := ⟨r.gr, (r.kr + i) * 4 + q, none⟩) (hx.block r.gr (World.block_lt_of_cell? w ⟨r.gr, _, none⟩ h1) (fun hs => by have := hS _ hs; have := h.geR; omega))).trans h1

/-- All lines so far, and that they lie apart. -/
structure Ls (w : World) (N j : Nat) (live : Nat → Prop) (lA lR : Nat → Nat) (R : Nat → Nat → RunZ) (B : Nat → Nat → Int) (ln : Nat → LRec) (ckT ckR : List Ck) : Prop where
  one : ∀ p, p < j → live p → LineQ w N (lA p) (lR p) (R p) (B p) (ln p) ckT ckR
  two : ∀ p q, p < q → q < j → live p → live q → ((ln p).gt = (ln q).gt → (ln p).kt + lA p ≤ (ln q).kt) ∧ ((ln p).gr = (ln q).gr → (ln p).kr + lR p ≤ (ln q).kr)

section
variable {w w' : World} {N j : Nat} {live : Nat → Prop} {lA lR : Nat → Nat} {R : Nat → Nat → RunZ} {B : Nat → Nat → Int} {ln : Nat → LRec} {ckT ckR : List Ck}
theorem Ls.zero : Ls w N 0 live lA lR R B ln ckT ckR := ⟨fun p hp => by omega, fun p q _ hq => by omega⟩
theorem Ls.ex {S : Nat → Prop} (h : Ls w N j live lA lR R B ln ckT ckR) (hx : Ex S w w') (hS : ∀ k, S k → k < N) : Ls w' N j live lA lR R B ln ckT ckR :=
  ⟨fun p hp hl => (h.one p hp hl).ex hx hS, h.two⟩
theorem Ls.dead (h : Ls w N j live lA lR R B ln ckT ckR) (hd : ¬ live j) : Ls w N (j + 1) live lA lR R B ln ckT ckR := by
  refine ⟨fun p hp hl => ?_, fun p q hpq hq hl1 hl2 => ?_⟩
  · by_cases e : p = j
    · subst e; exact absurd hl hd
    · exact h.one p (by omega) hl
  · by_cases e : q = j
    · subst e; exact absurd hl2 hd
    · exact h.two p q hpq (by omega) hl1 hl2

/-- An old line behind a call of add. -/
theorem LineQ.added {Mb lT n lT' n' : Nat} {R0 : Nat → RunZ} {B0 : Nat → Int} {r : LRec} {hvT hvR hvT' hvR' : Value} {pT pR pT' pR' : Nat} {ckT' ckR' : List Ck} {gt kt gr kr : Nat} (h : LineQ w N lT n R0 B0 r ckT ckR) (hMb : Mb < N)
    (hAT : Arena w N 22 5 1 hvT pT ckT) (hAR : Arena w N 37 57 4 hvR pR ckR) (hAT' : Arena w' N 22 5 1 hvT' pT' ckT') (hAR' : Arena w' N 37 57 4 hvR' pR' ckR')
    (h6 : N ≤ gt ∧ (∃ cap, (gt, kt + lT', cap) ∈ ckT') ∧ (∀ c ∈ ckT, c.1 ≠ gt → c ∈ ckT') ∧ (∀ c ∈ ckT, c.1 = gt → c.2.1 ≤ kt))
    (h7 : N ≤ gr ∧ (∃ cap, (gr, kr + n', cap) ∈ ckR') ∧ (∀ c ∈ ckR, c.1 ≠ gr → c ∈ ckR') ∧ (∀ c ∈ ckR, c.1 = gr → c.2.1 ≤ kr))
    (h10 : Ex (fun b => b = Mb ∨ HdrBlk w N 22 b ∨ HdrBlk w N 37 b ∨ b = gt ∨ b = gr) w w')
    (h11 : ∀ c ∈ ckT, c.1 = gt → ∀ o, (o < kt ∨ kt + lT' ≤ o) → w'.cell? ⟨gt, o, none⟩ = w.cell? ⟨gt, o, none⟩)
    (h12 : ∀ c ∈ ckR, c.1 = gr → ∀ o, (o < kr * 4 ∨ (kr + n') * 4 ≤ o) → w'.cell? ⟨gr, o, none⟩ = w.cell? ⟨gr, o, none⟩) :
    LineQ w' N lT n R0 B0 r ckT' ckR' ∧ (r.gt = gt → r.kt + lT ≤ kt) ∧ (r.gr = gr → r.kr + n ≤ kr) := by
  obtain ⟨uT, capT, hinT, hleT⟩ := h.inT
  obtain ⟨uR, capR, hinR, hleR⟩ := h.inR
  obtain ⟨_, ⟨capT', hnT⟩, holdT, hlowT⟩ := h6
  obtain ⟨_, ⟨capR', hnR⟩, holdR, hlowR⟩ := h7
  have hkT : r.gt = gt → r.kt + lT ≤ kt := fun e => by have := hlowT _ hinT e; simp at this; omega
  have hkR : r.gr = gr → r.kr + n ≤ kr := fun e => by have := hlowR _ hinR e; simp at this; omega
  obtain ⟨_, ⟨KT, hKT, _⟩, _⟩ := hAT.chunk _ hinT
  obtain ⟨_, ⟨KR, hKR, _⟩, _⟩ := hAR.chunk _ hinR
  have hT' : ∃ u cap, (r.gt, u, cap) ∈ ckT' ∧ r.kt + lT ≤ u := by
    by_cases e : r.gt = gt
    · exact ⟨_, capT', by rw [e]; exact hnT, by have := hkT e; omega⟩
    · exact ⟨uT, capT, holdT _ hinT e, hleT⟩
  have hR' : ∃ u cap, (r.gr, u, cap) ∈ ckR' ∧ r.kr + n ≤ u := by
    by_cases e : r.gr = gr
    · exact ⟨_, capR', by rw [e]; exact hnR, by have := hkR e; omega⟩
    · exact ⟨uR, capR, holdR _ hinR e, hleR⟩
  have hT'' := hT'
  have hR'' := hR'
  obtain ⟨_, _, hT1, _⟩ := hT''
  obtain ⟨_, _, hR1, _⟩ := hR''
  obtain ⟨_, ⟨KT', hKT', _⟩, _⟩ := hAT'.chunk _ hT1
  obtain ⟨_, ⟨KR', hKR', _⟩, _⟩ := hAR'.chunk _ hR1
  obtain ⟨_, ⟨LT', hLT', _⟩, _⟩ := hAT'.chunk _ hnT
  obtain ⟨_, ⟨LR', hLR', _⟩, _⟩ := hAR'.chunk _ hnR
  have hne1 : r.gt ≠ gr := hKT'.ne hLR' (by decide)
  have hne2 : r.gr ≠ gt := hKR'.ne hLT' (by decide)
  have hgT := h.geT
  have hgR := h.geR
  have sT : r.gt ≠ gt → ¬ (r.gt = Mb ∨ HdrBlk w N 22 r.gt ∨ HdrBlk w N 37 r.gt ∨ r.gt = gt ∨ r.gt = gr) := by
    rintro hg (h | ⟨_, L, h⟩ | ⟨_, L, h⟩ | h | h)
    · omega
    · exact absurd (h.type_eq hKT) (by decide)
    · exact absurd (h.type_eq hKT) (by decide)
    · exact hg h
    · exact hne1 h
  have sR : r.gr ≠ gr → ¬ (r.gr = Mb ∨ HdrBlk w N 22 r.gr ∨ HdrBlk w N 37 r.gr ∨ r.gr = gt ∨ r.gr = gr) := by
    rintro hg (h | ⟨_, L, h⟩ | ⟨_, L, h⟩ | h | h)
    · omega
    · exact absurd (h.type_eq hKR) (by decide)
    · exact absurd (h.type_eq hKR) (by decide)
    · exact hne2 h
    · exact hg h
  refine ⟨⟨hgT, hgR, hT', hR', fun i hi => ?_, fun i hi => ⟨fun q v hv => ?_, (h.run i hi).2⟩⟩, hkT, hkR⟩
  · have h1 := h.txt i hi
    by_cases e : r.gt = gt
    · have := hkT e
      rw [e] at h1 ⊢
      rw [h11 _ hinT e (r.kt + i) (.inl (by omega))]; exact h1
    · exact (World.cell?_of_block (w := w) (w' := w') (a := ⟨r.gt, r.kt + i, none⟩) (h10.block r.gt (World.block_lt_of_cell? w ⟨r.gt, _, none⟩ h1) (sT e))).trans h1
  · have h1 := (h.run i hi).1 q v hv
    have hq : q < 4 := (List.getElem?_eq_some_iff.1 hv).1
    by_cases e : r.gr = gr
    · have := hkR e
      rw [e] at h1 ⊢
      rw [h12 _ hinR e ((r.kr + i) * 4 + q) (.inl (by omega))]; exact h1
    · exact (World.cell?_of_block (w := w) (w' := w') (a := ⟨r.gr, (r.kr + i) * 4 + q, none⟩) (h10.block r.gr (World.block_lt_of_cell? w ⟨r.gr, _, none⟩ h1) (sR e))).trans h1

/-- One more line. -/
theorem Ls.add {Mb : Nat} {hvT hvR hvT' hvR' : Value} {pT pR pT' pR' : Nat} {ckT' ckR' : List Ck} {gt kt gr kr : Nat} {A : Nat → Nat} (h : Ls w N j live lA lR R B ln ckT ckR) (hMb : Mb < N)
    (hAT : Arena w N 22 5 1 hvT pT ckT) (hAR : Arena w N 37 57 4 hvR pR ckR) (hAT' : Arena w' N 22 5 1 hvT' pT' ckT') (hAR' : Arena w' N 37 57 4 hvR' pR' ckR')
    (h6 : N ≤ gt ∧ (∃ cap, (gt, kt + lA j, cap) ∈ ckT') ∧ (∀ c ∈ ckT, c.1 ≠ gt → c ∈ ckT') ∧ (∀ c ∈ ckT, c.1 = gt → c.2.1 ≤ kt))
    (h7 : N ≤ gr ∧ (∃ cap, (gr, kr + lR j, cap) ∈ ckR') ∧ (∀ c ∈ ckR, c.1 ≠ gr → c ∈ ckR') ∧ (∀ c ∈ ckR, c.1 = gr → c.2.1 ≤ kr))
    (h8 : ∀ i, i < lA j → w'.cell? ⟨gt, kt + i, none⟩ = some (.int .u8 (B j i)))
    (h9 : ∀ i, i < lR j → w'.rangeAt gr ((kr + i) * 4) (rcell gt A (R j) i) ∧ (0 < rlen (R j) i → A i = kt + (before (R j) i).toNat))
    (h10 : Ex (fun b => b = Mb ∨ HdrBlk w N 22 b ∨ HdrBlk w N 37 b ∨ b = gt ∨ b = gr) w w')
    (h11 : ∀ c ∈ ckT, c.1 = gt → ∀ o, (o < kt ∨ kt + lA j ≤ o) → w'.cell? ⟨gt, o, none⟩ = w.cell? ⟨gt, o, none⟩)
    (h12 : ∀ c ∈ ckR, c.1 = gr → ∀ o, (o < kr * 4 ∨ (kr + lR j) * 4 ≤ o) → w'.cell? ⟨gr, o, none⟩ = w.cell? ⟨gr, o, none⟩) :
    Ls w' N (j + 1) live lA lR R B (fun q => if q = j then ⟨gt, kt, gr, kr, A⟩ else ln q) ckT' ckR' := by
  refine ⟨fun p hp hl => ?_, fun p q hpq hq hl1 hl2 => ?_⟩
  · by_cases e : p = j
    · subst e
      obtain ⟨a1, ⟨c1, a2⟩, _⟩ := h6
      obtain ⟨b1, ⟨c2, b2⟩, _⟩ := h7
      simp only [if_true]
      exact ⟨a1, b1, ⟨_, c1, a2, Nat.le_refl _⟩, ⟨_, c2, b2, Nat.le_refl _⟩, h8, h9⟩
    · simp only [if_neg e]
      exact (LineQ.added (h.one p (by omega) hl) hMb hAT hAR hAT' hAR' h6 h7 h10 h11 h12).1
  · have e1 : p ≠ j := by omega
    simp only [if_neg e1]
    by_cases e : q = j
    · subst e
      simp only [if_true]
      exact (LineQ.added (h.one p (by omega) hl1) hMb hAT hAR hAT' hAR' h6 h7 h10 h11 h12).2
    · simp only [if_neg e]
      exact h.two p q hpq (by omega) hl1 hl2
end

/-- Where the last run of a line ends. -/
def te (R : Nat → RunZ) (n : Nat) : Nat := (before R n).toNat
theorem before_mono {lT n : Nat} {R : Nat → RunZ} (hV : Valid lT n R) {i : Nat} : ∀ j, i ≤ j → j ≤ n → before R i ≤ before R j
  | 0, h, _ => by obtain rfl : i = 0 := by omega
                  exact Int.le_refl _
  | j + 1, h, hj => by
    rcases Nat.lt_or_ge i (j + 1) with h' | h'
    · have := before_mono hV j (by omega : i ≤ j) (by omega)
      have h2 := (hV j (by omega)).1
      rw [before_succ]; omega
    · obtain rfl : i = j + 1 := by omega
      exact Int.le_refl _
theorem before_nn {lT n : Nat} {R : Nat → RunZ} (hV : Valid lT n R) {i : Nat} (hi : i ≤ n) : 0 ≤ before R i := by
  have := before_mono hV (i := 0) i (by omega) hi
  simpa [before] using this
theorem te_le {lT n : Nat} {R : Nat → RunZ} (hV : Valid lT n R) : te R n ≤ lT := by
  unfold te
  cases n with
  | zero => simp [before]
  | succ n => rw [before_succ]; have := (hV n (by omega)).2; omega
/-- The place of byte x of run i in the line's text. -/
theorem place_lt {lT n : Nat} {R : Nat → RunZ} (hV : Valid lT n R) {i x : Nat} (hi : i < n) (hx : x < rlen R i) : (before R i).toNat + x < te R n := by
  have h1 := before_mono hV (i := i + 1) n (by omega) (Nat.le_refl _)
  have h2 := before_nn hV (i := i) (by omega)
  rw [before_succ] at h1
  unfold rlen at hx
  unfold te
  omega
theorem place_end {lT n : Nat} {R : Nat → RunZ} (hV : Valid lT n R) {i : Nat} (hi : i < n) : (before R i).toNat + rlen R i = (before R (i + 1)).toNat := by
  have h1 := (hV i hi).1
  have h2 := before_nn hV (i := i) (by omega)
  rw [before_succ]
  unfold rlen
  omega

/-- The lines, turned as far as run k of line i and byte m of its text. -/
structure St (w : World) (nn i k m : Nat) (live : Nat → Prop) (lR : Nat → Nat) (R : Nat → Nat → RunZ) (B : Nat → Nat → Int) (ln : Nat → LRec) : Prop where
  blkT : ∀ p, p < nn → live p → ∃ K, Blk w (ln p).gt 5 K
  blkR : ∀ p, p < nn → live p → ∃ K, Blk w (ln p).gr 57 K
  txt : ∀ p, p < nn → live p → ∀ y, y < te (R p) (lR p) → w.cell? ⟨(ln p).gt, (ln p).kt + y, none⟩ = some (.int .u8 (if p < i ∨ (p = i ∧ y < m) then iv8 (B p y) else B p y))
  run : ∀ p, p < nn → live p → ∀ r, r < lR p → rat5 w (ln p).gr (((ln p).kr + r) * 4) (ln p).gt ((ln p).A r) (rlen (R p) r) (if p < i ∨ (p = i ∧ r < k) then iv32 (R p r).2.1 else (R p r).2.1) (R p r).2.2.1 (if p < i ∨ (p = i ∧ r < k) then iv8 (R p r).2.2.2 else (R p r).2.2.2)

/-- What does not change: the lines lie apart. -/
structure Apart (N nn : Nat) (live : Nat → Prop) (lR : Nat → Nat) (R : Nat → Nat → RunZ) (ln : Nat → LRec) : Prop where
  ge : ∀ p, p < nn → live p → N ≤ (ln p).gt ∧ N ≤ (ln p).gr
  adr : ∀ p, p < nn → live p → ∀ r, r < lR p → 0 < rlen (R p) r → (ln p).A r = (ln p).kt + (before (R p) r).toNat
  two : ∀ p q, p < nn → q < nn → p ≠ q → live p → live q → ((ln p).gt = (ln q).gt → (ln p).kt + te (R p) (lR p) ≤ (ln q).kt ∨ (ln q).kt + te (R q) (lR q) ≤ (ln p).kt) ∧ ((ln p).gr = (ln q).gr → (ln p).kr + lR p ≤ (ln q).kr ∨ (ln q).kr + lR q ≤ (ln p).kr)

section
variable {w w' : World} {N nn i k m : Nat} {live : Nat → Prop} {lA lR : Nat → Nat} {R : Nat → Nat → RunZ} {B : Nat → Nat → Int} {ln : Nat → LRec} {ckT ckR : List Ck}
theorem Ls.apart (h : Ls w N nn live lA lR R B ln ckT ckR) (hV : ∀ p, p < nn → live p → Valid (lA p) (lR p) (R p)) : Apart N nn live lR R ln := by
  refine ⟨fun p hp hl => ⟨(h.one p hp hl).geT, (h.one p hp hl).geR⟩, fun p hp hl r hr h0 => ((h.one p hp hl).run r hr).2 h0, fun p q hp hq hpq hl1 hl2 => ?_⟩
  have t1 := te_le (hV p hp hl1)
  have t2 := te_le (hV q hq hl2)
  rcases Nat.lt_or_ge p q with h' | h'
  · have := h.two p q h' hq hl1 hl2
    exact ⟨fun e => .inl (by have := this.1 e; omega), fun e => .inl (by have := this.2 e; omega)⟩
  · have := h.two q p (by omega) hp hl2 hl1
    exact ⟨fun e => .inr (by have := this.1 e.symm; omega), fun e => .inr (by have := this.2 e.symm; omega)⟩
theorem Ls.start {hvT hvR : Value} {pT pR : Nat} (h : Ls w N nn live lA lR R B ln ckT ckR) (hV : ∀ p, p < nn → live p → Valid (lA p) (lR p) (R p)) (hAT : Arena w N 22 5 1 hvT pT ckT) (hAR : Arena w N 37 57 4 hvR pR ckR) : St w nn 0 0 0 live lR R B ln := by
  refine ⟨fun p hp hl => ?_, fun p hp hl => ?_, fun p hp hl y hy => ?_, fun p hp hl r hr => ?_⟩
  · obtain ⟨u, cap, h1, _⟩ := (h.one p hp hl).inT
    obtain ⟨_, ⟨K, hK, _⟩, _⟩ := hAT.chunk _ h1
    exact ⟨K, hK⟩
  · obtain ⟨u, cap, h1, _⟩ := (h.one p hp hl).inR
    obtain ⟨_, ⟨K, hK, _⟩, _⟩ := hAR.chunk _ h1
    exact ⟨K, hK⟩
  · rw [if_neg (by omega)]
    exact (h.one p hp hl).txt y (by have := te_le (hV p hp hl); omega)
  · rw [if_neg (by omega), if_neg (by omega)]
    exact rat4_of ((h.one p hp hl).run r hr).1
theorem St.below (h : St w nn i k m live lR R B ln) (hb : Below w.heap.size w w') : St w' nn i k m live lR R B ln := by
  refine ⟨fun p hp hl => ?_, fun p hp hl => ?_, fun p hp hl y hy => ?_, fun p hp hl r hr => ?_⟩
  · obtain ⟨K, hK⟩ := h.blkT p hp hl
    exact ⟨K, hK.below hb hK.lt⟩
  · obtain ⟨K, hK⟩ := h.blkR p hp hl
    exact ⟨K, hK.below hb hK.lt⟩
  · obtain ⟨K, hK⟩ := h.blkT p hp hl
    exact (hb.cell (p := ⟨(ln p).gt, (ln p).kt + y, none⟩) hK.lt).trans (h.txt p hp hl y hy)
  · obtain ⟨K, hK⟩ := h.blkR p hp hl
    exact rat5_below (h.run p hp hl r hr) hb hK.lt
theorem St.ex {S : Nat → Prop} (h : St w nn i k m live lR R B ln) (hA : Apart N nn live lR R ln) (hx : Ex S w w') (hS : ∀ k, S k → k < N) : St w' nn i k m live lR R B ln := by
  have hc : ∀ b o K t, Blk w b t K → N ≤ b → w'.cell? ⟨b, o, none⟩ = w.cell? ⟨b, o, none⟩ := fun b o K t hK hb =>
    World.cell?_of_block (w := w) (w' := w') (a := ⟨b, o, none⟩) (hx.block b hK.lt (fun hs => by have := hS _ hs; omega))
  refine ⟨fun p hp hl => ?_, fun p hp hl => ?_, fun p hp hl y hy => ?_, fun p hp hl r hr => ?_⟩
  · obtain ⟨K, hK⟩ := h.blkT p hp hl
    exact ⟨K, hK.ex hx (fun hs => by have := hS _ hs; have := (hA.ge p hp hl).1; omega)⟩
  · obtain ⟨K, hK⟩ := h.blkR p hp hl
    exact ⟨K, hK.ex hx (fun hs => by have := hS _ hs; have := (hA.ge p hp hl).2; omega)⟩
  · obtain ⟨K, hK⟩ := h.blkT p hp hl
    rw [hc _ _ _ _ hK (hA.ge p hp hl).1]; exact h.txt p hp hl y hy
  · obtain ⟨K, hK⟩ := h.blkR p hp hl
    obtain ⟨h0, h1, h2, h3⟩ := h.run p hp hl r hr
    have g := (hA.ge p hp hl).2
    exact ⟨by rw [hc _ _ _ _ hK g]; exact h0, by rw [hc _ _ _ _ hK g]; exact h1, by rw [hc _ _ _ _ hK g]; exact h2, by rw [hc _ _ _ _ hK g]; exact h3⟩

theorem Blk.some_set {w : World} {b t : Nat} {K : List Value} (h : Blk w b t K) (g q : Nat) (v : Value) : ∃ K', Blk (w.setCell ⟨g, q, none⟩ v) b t K' := by
  by_cases e : b = g
  · subst e; exact ⟨_, h.setCell q v⟩
  · exact ⟨K, h.setCell_other (by simpa using e) v⟩
theorem if_same {α : Type} {P Q : Prop} [Decidable P] [Decidable Q] (h : P ↔ Q) (a b : α) : (if P then a else b) = if Q then a else b := by
  by_cases hp : P
  · rw [if_pos hp, if_pos (h.1 hp)]
  · rw [if_neg hp, if_neg (fun hq => hp (h.2 hq))]
theorem cell_set_ne {w : World} {b o g q : Nat} {v : Value} (h : b = g → o ≠ q) : (w.setCell ⟨g, q, none⟩ v).cell? ⟨b, o, none⟩ = w.cell? ⟨b, o, none⟩ :=
  World.cell?_setCell_other _ _ _ _ (by intro e; injection e with e1 e2; exact h e1.symm e2.symm)
theorem cell_set_eq {w : World} {b o t : Nat} {K : List Value} {v : Value} (h : Blk w b t K) (ho : o < K.length) : (w.setCell ⟨b, o, none⟩ v).cell? ⟨b, o, none⟩ = some v := by
  rw [(h.setCell o v).cell]; simp [ho]
theorem Blk.len_of {w : World} {b o t : Nat} {K : List Value} {v : Value} (h : Blk w b t K) (hc : w.cell? ⟨b, o, none⟩ = some v) : o < K.length := by
  rw [h.cell] at hc
  exact (List.getElem?_eq_some_iff.1 hc).1

/-- One byte is turned. -/
theorem St.byte (h : St w nn i k m live lR R B ln) (hA : Apart N nn live lR R ln) (hi : i < nn) (hl : live i) (hm : m < te (R i) (lR i)) :
    St (w.setCell ⟨(ln i).gt, (ln i).kt + m, none⟩ (.int .u8 (iv8 (B i m)))) nn i k (m + 1) live lR R B ln := by
  obtain ⟨K, hK⟩ := h.blkT i hi hl
  refine ⟨fun p hp hp2 => ?_, fun p hp hp2 => ?_, fun p hp hp2 y hy => ?_, fun p hp hp2 r hr => ?_⟩
  · obtain ⟨K', hK'⟩ := h.blkT p hp hp2
    exact hK'.some_set _ _ _
  · obtain ⟨K', hK'⟩ := h.blkR p hp hp2
    exact hK'.some_set _ _ _
  · by_cases e : p = i
    · subst e
      by_cases ey : y = m
      · subst ey
        rw [cell_set_eq hK (hK.len_of (h.txt p hp hp2 y hy)), if_pos (by omega)]
      · rw [cell_set_ne (by omega), h.txt p hp hp2 y hy]
        by_cases c : y < m
        · rw [if_pos (by omega), if_pos (by omega)]
        · rw [if_neg (by omega), if_neg (by omega)]
    · have := (hA.two p i hp hi e hp2 hl).1
      rw [cell_set_ne (fun eg => by have := this eg; omega), h.txt p hp hp2 y hy]
      by_cases c : p < i
      · rw [if_pos (by omega), if_pos (by omega)]
      · rw [if_neg (by omega), if_neg (by omega)]
  · obtain ⟨K', hK'⟩ := h.blkR p hp hp2
    have hne : (ln p).gr ≠ (ln i).gt := hK'.ne hK (by decide)
    obtain ⟨h0, h1, h2, h3⟩ := h.run p hp hp2 r hr
    exact ⟨by rw [cell_set_ne (fun eg => absurd eg hne)]; exact h0, by rw [cell_set_ne (fun eg => absurd eg hne)]; exact h1, by rw [cell_set_ne (fun eg => absurd eg hne)]; exact h2, by rw [cell_set_ne (fun eg => absurd eg hne)]; exact h3⟩

/-- A run's foreground and attributes are turned. -/
theorem St.style (h : St w nn i k m live lR R B ln) (hA : Apart N nn live lR R ln) (hi : i < nn) (hl : live i) (hk : k < lR i) :
    St ((w.setCell ⟨(ln i).gr, ((ln i).kr + k) * 4 + 1, none⟩ (.int .u32 (iv32 (R i k).2.1))).setCell ⟨(ln i).gr, ((ln i).kr + k) * 4 + 3, none⟩ (.int .u8 (iv8 (R i k).2.2.2))) nn i (k + 1) m live lR R B ln := by
  obtain ⟨K, hK⟩ := h.blkR i hi hl
  obtain ⟨g0, g1, g2, g3⟩ := h.run i hi hl k hk
  have l1 := hK.len_of g1
  have l3 := hK.len_of g3
  have hK1 := hK.setCell (((ln i).kr + k) * 4 + 1) (.int .u32 (iv32 (R i k).2.1))
  refine ⟨fun p hp hp2 => ?_, fun p hp hp2 => ?_, fun p hp hp2 y hy => ?_, fun p hp hp2 r hr => ?_⟩
  · obtain ⟨K', hK'⟩ := h.blkT p hp hp2
    obtain ⟨K2, hK2⟩ := hK'.some_set _ _ _
    exact hK2.some_set _ _ _
  · obtain ⟨K', hK'⟩ := h.blkR p hp hp2
    obtain ⟨K2, hK2⟩ := hK'.some_set _ _ _
    exact hK2.some_set _ _ _
  · obtain ⟨K', hK'⟩ := h.blkT p hp hp2
    have hne : (ln p).gt ≠ (ln i).gr := hK'.ne hK (by decide)
    rw [cell_set_ne (fun eg => absurd eg hne), cell_set_ne (fun eg => absurd eg hne)]
    exact h.txt p hp hp2 y hy
  · obtain ⟨h0, h1, h2, h3⟩ := h.run p hp hp2 r hr
    by_cases e : p = i
    · subst e
      by_cases er : r = k
      · subst er
        refine ⟨?_, ?_, ?_, ?_⟩
        · rw [cell_set_ne (by omega), cell_set_ne (by omega)]; exact h0
        · rw [cell_set_ne (by omega), cell_set_eq hK l1, if_pos (by omega)]
        · rw [cell_set_ne (by omega), cell_set_ne (by omega)]; exact h2
        · rw [cell_set_eq hK1 (by simpa using l3), if_pos (by omega)]
      · have hc : ∀ q, q < 4 → (p = p → r ≠ k) → ((w.setCell ⟨(ln p).gr, ((ln p).kr + k) * 4 + 1, none⟩ (.int .u32 (iv32 (R p k).2.1))).setCell ⟨(ln p).gr, ((ln p).kr + k) * 4 + 3, none⟩ (.int .u8 (iv8 (R p k).2.2.2))).cell? ⟨(ln p).gr, ((ln p).kr + r) * 4 + q, none⟩ = w.cell? ⟨(ln p).gr, ((ln p).kr + r) * 4 + q, none⟩ := fun q hq _ => by
          rw [cell_set_ne (by omega), cell_set_ne (by omega)]
        have ei : (p < p ∨ p = p ∧ r < k + 1) ↔ (p < p ∨ p = p ∧ r < k) := by omega
        rw [if_same ei, if_same ei]
        exact ⟨(hc 0 (by omega) (fun _ => er)).trans h0, (hc 1 (by omega) (fun _ => er)).trans h1, (hc 2 (by omega) (fun _ => er)).trans h2, (hc 3 (by omega) (fun _ => er)).trans h3⟩
    · have hd := (hA.two p i hp hi e hp2 hl).2
      have hc : ∀ q, q < 4 → ((w.setCell ⟨(ln i).gr, ((ln i).kr + k) * 4 + 1, none⟩ (.int .u32 (iv32 (R i k).2.1))).setCell ⟨(ln i).gr, ((ln i).kr + k) * 4 + 3, none⟩ (.int .u8 (iv8 (R i k).2.2.2))).cell? ⟨(ln p).gr, ((ln p).kr + r) * 4 + q, none⟩ = w.cell? ⟨(ln p).gr, ((ln p).kr + r) * 4 + q, none⟩ := fun q hq => by
        rw [cell_set_ne (fun eg => by have := hd eg; omega), cell_set_ne (fun eg => by have := hd eg; omega)]
      have ei : (p < i ∨ p = i ∧ r < k + 1) ↔ (p < i ∨ p = i ∧ r < k) := by omega
      rw [if_same ei, if_same ei]
      exact ⟨(hc 0 (by omega)).trans h0, (hc 1 (by omega)).trans h1, (hc 2 (by omega)).trans h2, (hc 3 (by omega)).trans h3⟩
theorem St.next (h : St w nn i k m live lR R B ln) (hd : live i → k = lR i ∧ m = te (R i) (lR i)) : St w nn (i + 1) 0 0 live lR R B ln := by
  refine ⟨h.blkT, h.blkR, fun p hp hl y hy => ?_, fun p hp hl r hr => ?_⟩
  · rw [h.txt p hp hl y hy]
    have : (p < i ∨ p = i ∧ y < m) ↔ (p < i + 1 ∨ p = i + 1 ∧ y < 0) := by
      by_cases e : p = i
      · subst e; have := hd hl; omega
      · omega
    rw [if_same this]
  · have := h.run p hp hl r hr
    have e2 : (p < i ∨ p = i ∧ r < k) ↔ (p < i + 1 ∨ p = i + 1 ∧ r < 0) := by
      by_cases e : p = i
      · subst e; have := hd hl; omega
      · omega
    rw [if_same e2, if_same e2] at this
    exact this
/-- The lines that are turned, and those that are not. -/
theorem St.done (h : St w nn nn 0 0 live lR R B ln) (hA : Apart N nn live lR R ln) {p : Nat} (hp : p < nn) (hl : live p) (hV : Valid (lA p) (lR p) (R p)) : LineIs w (ln p).gr ((ln p).kr * 4) (lR p) (ln p).gt (ln p).A (ivR (R p)) (fun x => iv8 (B p x)) := by
  intro r hr
  obtain ⟨K, hK⟩ := h.blkT p hp hl
  obtain ⟨K', hK'⟩ := h.blkR p hp hl
  have h4 := h.run p hp hl r hr
  rw [if_pos (.inl hp), if_pos (.inl hp)] at h4
  refine ⟨hK'.lt, ?_, fun x hx => ⟨hK.lt, ?_⟩⟩
  · obtain ⟨h0, h1, h2, h3⟩ := h4
    rw [show (ln p).kr * 4 + r * 4 = ((ln p).kr + r) * 4 by omega]
    intro q v hv
    have hq : q < 4 := (List.getElem?_eq_some_iff.1 hv).1
    rw [show rcell (ln p).gt (ln p).A (ivR (R p)) r = [.slice (some ⟨(ln p).gt, (ln p).A r, none⟩) (rlen (R p) r) (rlen (R p) r), .int .u32 (iv32 (R p r).2.1), .int .u32 (R p r).2.2.1, .int .u8 (iv8 (R p r).2.2.2)] by unfold rcell; rw [ivR_rlen]; rfl] at hv
    match q, hq with
    | 0, _ => simp at hv; rw [← hv]; exact h0
    | 1, _ => simp at hv; rw [← hv]; exact h1
    | 2, _ => simp at hv; rw [← hv]; exact h2
    | 3, _ => simp at hv; rw [← hv]; exact h3
  · rw [ivR_rlen] at hx
    rw [ivR_before, hA.adr p hp hl r hr (by omega), Nat.add_assoc, h.txt p hp hl _ (place_lt hV hr hx), if_pos (.inl hp)]
end
end Go.Proofs.Qxb6604013a
