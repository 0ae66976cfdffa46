import Derived.Test.Qxb6604013aRoom
namespace Go.Proofs.Qxb6604013a
open Go.RowKit
set_option linter.unusedVariables false
attribute [local go_sem ↓] Go.wp_at_zero Go.wp_at_succ

/-- A run of a packed line: where it ends, Fg, Bg, Attr. -/
abbrev RunZ := Int × Int × Int × Int
def cv4 (z : RunZ) : List Value := [.int .i32 z.1, .int .u32 z.2.1, .int .u32 z.2.2.1, .int .u8 z.2.2.2]
theorem cv4_length (z : RunZ) : (cv4 z).length = 4 := rfl
theorem cv4_one {z : RunZ} {v : Value} (h : v ∈ cv4 z) : v.oneCell' = true := by
  simp [cv4] at h
  rcases h with rfl | rfl | rfl | rfl <;> rfl

/-- len bytes lie behind the slice's address a, at ⟨b, off⟩ on. -/
def IsBytes (w : World) (a : Option Addr) (len b off : Nat) (B : Nat → Int) : Prop :=
  (0 < len → a = some ⟨b, off, none⟩) ∧ ∀ i, i < len → w.cell? ⟨b, off + i, none⟩ = some (.int .u8 (B i))
/-- n runs lie behind the slice's address a. -/
def IsRuns (w : World) (a : Option Addr) (n b off : Nat) (R : Nat → RunZ) : Prop :=
  (0 < n → a = some ⟨b, off, none⟩) ∧ ∀ i, i < n → w.rangeAt b (off + i * 4) (cv4 (R i)) ∧ -2147483648 ≤ (R i).1 ∧ (R i).1 ≤ 2147483647
theorem IsBytes.lt {w : World} {a : Option Addr} {len b off : Nat} {B : Nat → Int} (h : IsBytes w a len b off B) (hl : 0 < len) : b < w.heap.size := World.block_lt_of_cell? w ⟨b, _, none⟩ (h.2 0 hl)
theorem IsRuns.lt {w : World} {a : Option Addr} {n b off : Nat} {R : Nat → RunZ} (h : IsRuns w a n b off R) (hl : 0 < n) : b < w.heap.size := World.block_lt_of_cell? w ⟨b, _, none⟩ ((h.2 0 hl).1 0 _ rfl)
theorem IsBytes.below {w w' : World} {a : Option Addr} {len b off : Nat} {B : Nat → Int} (h : IsBytes w a len b off B) (hb : Below w.heap.size w w') : IsBytes w' a len b off B :=
  ⟨h.1, fun i hi => (hb.cell (p := ⟨b, off + i, none⟩) (h.lt (by omega))).trans (h.2 i hi)⟩
theorem IsRuns.below {w w' : World} {a : Option Addr} {n b off : Nat} {R : Nat → RunZ} (h : IsRuns w a n b off R) (hb : Below w.heap.size w w') : IsRuns w' a n b off R :=
  ⟨h.1, fun i hi => ⟨range_below (h.2 i hi).1 hb (h.lt (by omega)), (h.2 i hi).2⟩⟩
theorem IsBytes.belowB {w w' : World} {a : Option Addr} {len b off D : Nat} {B : Nat → Int} (h : IsBytes w a len b off B) (hb : Below D w w') (hD : 0 < len → b < D) : IsBytes w' a len b off B :=
  ⟨h.1, fun i hi => (hb.cell (p := ⟨b, off + i, none⟩) (hD (by omega))).trans (h.2 i hi)⟩
theorem IsRuns.belowB {w w' : World} {a : Option Addr} {n b off D : Nat} {R : Nat → RunZ} (h : IsRuns w a n b off R) (hb : Below D w w') (hD : 0 < n → b < D) : IsRuns w' a n b off R :=
  ⟨h.1, fun i hi => ⟨range_below (h.2 i hi).1 hb (hD (by omega)), (h.2 i hi).2⟩⟩

/-- Where the run before run i ends. -/
def before (R : Nat → RunZ) (i : Nat) : Int := if i = 0 then 0 else (R (i - 1)).1
def Valid (lenT n : Nat) (R : Nat → RunZ) : Prop := ∀ i, i < n → before R i ≤ (R i).1 ∧ (R i).1 ≤ lenT
theorem before_succ (R : Nat → RunZ) (i : Nat) : before R (i + 1) = (R i).1 := by simp [before]

set_option maxHeartbeats 400000 in
theorem bytes7_yes (a0 a1 : Option Addr) (l0 c0 l1 c1 : Nat) (w : World) (h : l0 + l1 ≤ 1048576) :
    Calls Try.prog 7 #[.slice a0 l0 c0, .slice a1 l1 c1] w fun e w' => e = .returned (.bool true) ∧ w' = w := by
  have h1 : l0 ≤ 1048576 := by omega
  have h2 : l1 ≤ 1048576 := by omega
  go_enter Try.func7, Try.ntmps7
  go_wp2
  go_ret
  exact ⟨rfl, rfl⟩

set_option maxHeartbeats 400000 in
theorem bytes7_no (a0 a1 : Option Addr) (l0 c0 l1 c1 : Nat) (w : World) (h : 1048576 < l0 + l1) :
    Calls Try.prog 7 #[.slice a0 l0 c0, .slice a1 l1 c1] w fun e w' => e = .returned (.bool false) ∧ w' = w := by
  by_cases h1 : l0 ≤ 1048576
  · by_cases h2 : l1 ≤ 1048576
    · go_enter Try.func7, Try.ntmps7
      go_wp2
      go_ret
      exact ⟨rfl, rfl⟩
    · go_enter Try.func7, Try.ntmps7
      go_wp2
      go_ret
      exact ⟨rfl, rfl⟩
  · go_enter Try.func7, Try.ntmps7
    go_wp2
    go_ret
    exact ⟨rfl, rfl⟩

/-- What zValid answers: true only where the packed line is well formed. -/
def ValidAns (lenT n : Nat) (R : Nat → RunZ) (e : Ending) : Prop := ∃ t : Bool, e = .returned (.bool t) ∧ (t = true → Valid lenT n R)
set_option maxHeartbeats 400000 in
theorem valid_any (a0 a1 : Option Addr) (lenT c0 n c1 b off : Nat) (R : Nat → RunZ) (w : World) (hlT : lenT ≤ 1048576) (hn : n ≤ 1048576) (hR : IsRuns w a1 n b off R) :
    Calls Try.prog 8 #[.slice a0 lenT c0, .slice a1 n c1] w fun e w' => ValidAns lenT n R e ∧ w' = w := by
  go_enter Try.func8, Try.ntmps8
  go_wp2
  go_loopg [5, 6] n (fun k p i wr => ∃ j : Nat, j ≤ n ∧ k = n - j ∧ i = .int .i64 j ∧ p = .int .i32 (before R j) ∧ Valid lenT j R ∧ wr = w)
  case atStart => exact ⟨0, by omega, by omega, rfl, rfl, fun i hi => by omega, rfl⟩
  case round =>
    obtain ⟨j, hj, rfl, rfl, rfl, hv, rfl⟩ := hrel
    by_cases hlt : j < n
    · obtain rfl := hR.1 (by omega)
      obtain ⟨hr, hlo, hhi⟩ := hR.2 j hlt
      have hc : wr.cell? ⟨b, off + j * 4, none⟩ = some (.int .i32 (R j).1) := hr 0 _ rfl
      have hl0 : (0 : Int) ≤ (j : Int) := by omega
      have hl1 : (j : Int) < (n : Int) := by omega
      have HV : Hid _ := hv
      clear hr hv hR
      by_cases hp : before R j ≤ (R j).1
      · by_cases hq : (R j).1 ≤ lenT
        · have hd : decide ((R j).1 < before R j) = false := decide_eq_false (by omega)
          go_wp2
          go_roundg (n - (j + 1))
          case measure => omega
          case rel =>
            refine ⟨j + 1, by omega, rfl, by go_num, by rw [before_succ], fun i hi => ?_, rfl⟩
            by_cases e : i = j
            · subst e; exact ⟨hp, hq⟩
            · exact HV.out i (by omega)
        · have hd : decide ((R j).1 < before R j) = false := decide_eq_false (by omega)
          go_wp2
          go_ret
          exact ⟨⟨false, rfl, fun h => by cases h⟩, rfl⟩
      · go_wp2
        go_ret
        exact ⟨⟨false, rfl, fun h => by cases h⟩, rfl⟩
    · go_wp2
      go_ret
      obtain rfl : j = n := by omega
      exact ⟨⟨true, rfl, fun _ => hv⟩, rfl⟩


/-! ### Clones -/
def bl (B : Nat → Int) (n : Nat) : List Value := (List.range n).map fun i => .int .u8 (B i)
theorem bl_length (B : Nat → Int) (n : Nat) : (bl B n).length = n := by simp [bl]
theorem bl_get (B : Nat → Int) (n i : Nat) (h : i < n) : (bl B n)[i]? = some (.int .u8 (B i)) := by simp [bl, h]
theorem bl_of {L : List Value} {B : Nat → Int} {n : Nat} (hl : L.length = n) (h : ∀ i, i < n → L[i]? = some (.int .u8 (B i))) : L = bl B n := by
  apply List.ext_getElem?
  intro i
  by_cases hi : i < n
  · rw [h i hi, bl_get _ _ _ hi]
  · rw [List.getElem?_eq_none (by omega), List.getElem?_eq_none (by rw [bl_length]; omega)]
theorem bl_one {B : Nat → Int} {n : Nat} {v : Value} (h : v ∈ bl B n) : v.oneCell' = true := by
  simp [bl] at h
  obtain ⟨i, _, rfl⟩ := h
  rfl
def rl (R : Nat → RunZ) (n : Nat) : List Value := (List.range n).flatMap fun i => cv4 (R i)
theorem rl_succ (R : Nat → RunZ) (n : Nat) : rl R (n + 1) = rl R n ++ cv4 (R n) := by simp [rl, List.range_succ]
theorem rl_length (R : Nat → RunZ) (n : Nat) : (rl R n).length = n * 4 := by
  induction n with
  | zero => rfl
  | succ n ih => rw [rl_succ, List.length_append, ih, cv4_length]; omega
theorem rl_get (R : Nat → RunZ) (n i j : Nat) (hi : i < n) (hj : j < 4) : (rl R n)[i * 4 + j]? = (cv4 (R i))[j]? := by
  induction n with
  | zero => omega
  | succ n ih =>
    rw [rl_succ]
    by_cases e : i = n
    · subst e
      rw [List.getElem?_append_right (by rw [rl_length]; omega), rl_length]
      congr 1; omega
    · rw [List.getElem?_append_left (by rw [rl_length]; omega)]
      exact ih (by omega)
theorem rl_of {L : List Value} {R : Nat → RunZ} {n : Nat} (hl : L.length = n * 4) (h : ∀ i, i < n → ∀ j v, (cv4 (R i))[j]? = some v → L[i * 4 + j]? = some v) : L = rl R n := by
  apply List.ext_getElem?
  intro q
  by_cases hq : q < n * 4
  · have e : q = q / 4 * 4 + q % 4 := by omega
    have hm : q % 4 < 4 := Nat.mod_lt _ (by omega)
    have h1 := rl_get R n (q / 4) (q % 4) (by omega) hm
    have h2 := h (q / 4) (by omega) (q % 4) _ (List.getElem?_eq_getElem (by rw [cv4_length]; exact hm))
    rw [e, h1, h2, List.getElem?_eq_getElem (by rw [cv4_length]; exact hm)]
  · rw [List.getElem?_eq_none (by omega), List.getElem?_eq_none (by rw [rl_length]; omega)]

theorem Blk.setCell {w : World} {b : Nat} {t : TypeId} {L : List Value} (h : Blk w b t L) (o : Nat) (v : Value) : Blk (w.setCell ⟨b, o, none⟩ v) b t (L.set o v) := by
  rw [setCell_eq_setRow w b o _ t (0, 0) v h]
  have := h.setRow (L.set o v)
  simpa using this
theorem Blk.setCell_other {w : World} {b : Nat} {t : TypeId} {L : List Value} (h : Blk w b t L) {p : Addr} (hp : b ≠ p.block) (v : Value) : Blk (w.setCell p v) b t L := (Below.heap_setCell w p v b hp).trans h
theorem Blk.bytes {w : World} {b t : Nat} {B : Nat → Int} {n : Nat} (h : Blk w b t (bl B n)) : IsBytes w (some ⟨b, 0, none⟩) n b 0 B :=
  ⟨fun _ => rfl, fun i hi => by rw [h.cell, Nat.zero_add, bl_get _ _ _ hi]⟩
theorem Blk.runs {w : World} {b t : Nat} {R : Nat → RunZ} {n : Nat} (h : Blk w b t (rl R n)) (hR : ∀ i, i < n → -2147483648 ≤ (R i).1 ∧ (R i).1 ≤ 2147483647) : IsRuns w (some ⟨b, 0, none⟩) n b 0 R :=
  ⟨fun _ => rfl, fun i hi => ⟨h.range _ _ (fun j v hv => by
    have hj : j < 4 := (List.getElem?_eq_some_iff.1 hv).1
    rw [Nat.zero_add, rl_get _ _ _ _ hi hj]; exact hv), hR i hi⟩⟩

theorem info5 : (Try.prog.info? 5).map (fun i => (i.zero, i.size, i.bytes)) = some (some (.int .u8 0), 1, 1) := by kernel_rfl
theorem info69 : (Try.prog.info? 69).map (fun i => (i.zero, i.size, i.bytes)) = some (some (.agg #[.int .i32 0, .int .u32 0, .int .u32 0, .int .u8 0]), 4, 16) := by kernel_rfl
theorem info72 : (Try.prog.info? 72).map (fun i => (i.zero, i.size, i.bytes)) = some (some (.agg #[.int .i32 0, .int .u32 0, .int .u32 0, .int .u8 0]), 4, 16) := by kernel_rfl
theorem size69 : (Try.prog.info? 69).map (·.size) = some 4 := by kernel_rfl
theorem size72 : (Try.prog.info? 72).map (·.size) = some 4 := by kernel_rfl

set_option maxHeartbeats 400000 in
theorem cloneBytes_some (ad : Addr) (len cap b off : Nat) (B : Nat → Int) (w : World) (hlen : len ≤ 1048576) (hB : IsBytes w (some ad) len b off B) :
    Calls Try.prog 9 #[.slice (some ad) len cap] w fun e w' => e = .returned (.slice (some ⟨w.heap.size, 0, none⟩) len len) ∧ Blk w' w.heap.size 5 (bl B len) ∧ Below w.heap.size w w' := by
  have hq22 := fun (W : World) (x : Addr) (l c : Nat) => Lib.run_eql_slice_nil (P := Try.prog) W 22 5 (some x) l c 0 0 Try.underlying22
  simp only [Option.isNone_some] at hq22
  go_enter Try.func9, Try.ntmps9
  go_wp2_with (at_make; refine wpList_make_blk (by rfl) (.tmp 8) (.tmp 8) 22 (by rfl) 5 _ 1 1 Try.underlying22 info5 (by rfl) len (by rfl) (by rfl) (by omega) (by omega) ?_; intro w2 hT hb2 hs2)
  have hL : (Rep len (Value.int .u8 0).cells.toList).length = len := by rw [Rep_length]; simp [Value.cells]
  go_loopg [4] len (fun k i wr => ∃ (j : Nat) (L : List Value), j ≤ len ∧ k = len - j ∧ i = .int .i64 j ∧ Blk wr w.heap.size 5 L ∧ L.length = len ∧ (∀ q, q < j → L[q]? = some (.int .u8 (B q))) ∧ Below w.heap.size w wr)
  case atStart => exact ⟨0, _, by omega, by omega, rfl, hT, hL, fun q hq => by omega, hb2⟩
  case round =>
    clear hT hL hb2
    obtain ⟨j, L, hj, rfl, rfl, hT, hL, hP, hBw⟩ := hrel
    by_cases hlt : j < len
    · have had : ad = ⟨b, off, none⟩ := by have := hB.1 (by omega); simpa using this
      subst had
      have hc : wr.cell? ⟨b, off + j, none⟩ = some (.int .u8 (B j)) := (hBw.cell (p := ⟨b, off + j, none⟩) (hB.lt (by omega))).trans (hB.2 j hlt)
      have hl0 : (0 : Int) ≤ (j : Int) := by omega
      have hl1 : (j : Int) < (len : Int) := by omega
      have hT2 := hT.setCell j (.int .u8 (B j))
      have hd : wr.cell? ⟨w.heap.size, j, none⟩ = some L[j] := by rw [hT.cell]; simp
      have hf : wr.frozen? ⟨w.heap.size, j, none⟩ = false := hT.frozen j
      have HP : Hid _ := hP
      have HT : Hid _ := hT2
      clear hP hT2 hB
      go_wp2
      go_roundg (len - (j + 1))
      case measure => omega
      case rel =>
        refine ⟨j + 1, _, by omega, rfl, by go_num, HT.out, by simpa using hL, fun q hq => ?_, hBw.setCell (by simp) _⟩
        by_cases e : q = j
        · subst e; simp [hL, hlt]
        · rw [List.getElem?_set_ne (by omega)]; exact HP.out q (by omega)
    · obtain rfl : j = len := by omega
      go_wp2
      go_ret
      refine ⟨rfl, ?_, hBw⟩
      rw [← bl_of hL hP]; exact hT

set_option maxHeartbeats 400000 in
theorem cloneBytes_nil (w : World) :
    Calls Try.prog 9 #[.slice none 0 0] w fun e w' => e = .returned (.slice none 0 0) ∧ w' = w := by
  have hq22 := fun (W : World) => Lib.run_eql_slice_nil (P := Try.prog) W 22 5 none 0 0 0 0 Try.underlying22
  simp only [Option.isNone_none] at hq22
  go_enter Try.func9, Try.ntmps9
  go_wp2
  go_ret
  exact ⟨rfl, rfl⟩

end Go.Proofs.Qxb6604013a
