/-
  Small laws on worlds that are known by their blocks: no Go text in sight.
-/
import Derived.WalkKit
import Derived.WalkSpells
import Derived.WalkLawsBesides
import Derived.Deep.MidRow
import Derived.Laws.CopyOwn
namespace Go.Proofs.Qxb6604013a
open Go.RowKit

/-- Block b of w is a row of cells, the list L; nothing of it is frozen. -/
def Blk (w : World) (b : Nat) (t : TypeId) (L : List Value) : Prop := w.heap[b]? = some (.cells L.toArray t (0, 0))

/-- w' is w with new blocks and with writes to the blocks of S alone. -/
structure Ex (S : Nat → Prop) (w w' : World) : Prop where
  os : w'.os = w.os
  tape : w'.tape = w.tape
  output : w'.output = w.output
  size : w.heap.size ≤ w'.heap.size
  block : ∀ k, k < w.heap.size → ¬ S k → w'.heap[k]? = w.heap[k]?

theorem Ex.refl (S : Nat → Prop) (w : World) : Ex S w w := ⟨rfl, rfl, rfl, Nat.le_refl _, fun _ _ _ => rfl⟩
theorem Ex.trans {S : Nat → Prop} {a b c : World} (h : Ex S a b) (k : Ex S b c) : Ex S a c :=
  ⟨k.os.trans h.os, k.tape.trans h.tape, k.output.trans h.output, Nat.le_trans h.size k.size, fun i hi hs => (k.block i (Nat.lt_of_lt_of_le hi h.size) hs).trans (h.block i hi hs)⟩
theorem Ex.mono {S T : Nat → Prop} {w w' : World} (h : Ex S w w') (hS : ∀ k, k < w.heap.size → S k → T k) : Ex T w w' := ⟨h.os, h.tape, h.output, h.size, fun k hk hn => h.block k hk (fun hs => hn (hS k hk hs))⟩
theorem Ex.drew {S : Nat → Prop} {a w : World} (h : Ex S a w) : Ex S a w.drew := ⟨h.os, h.tape, h.output, h.size, h.block⟩
theorem Ex.alloc {S : Nat → Prop} {a w : World} (h : Ex S a w) (o : Obj) : Ex S a (w.alloc o) :=
  h.trans ⟨rfl, rfl, rfl, by simp, fun k hk _ => Below.heap_alloc _ _ _ hk⟩
theorem Ex.setRow {S : Nat → Prop} {a w : World} (h : Ex S a w) {g : Nat} (hg : S g) (c : Array Value) : Ex S a (w.setRow g c) :=
  h.trans ⟨rfl, rfl, rfl, by simp [World.setRow], fun k _ hs => setRow_other w g k c (fun e => hs (e ▸ hg))⟩
theorem Ex.setRow_new {S : Nat → Prop} {a w : World} (h : Ex S a w) {g : Nat} (hg : a.heap.size ≤ g) (c : Array Value) : Ex S a (w.setRow g c) :=
  ⟨h.os, h.tape, h.output, by simpa [World.setRow] using h.size, fun k hk hs => (setRow_other w g k c (by omega)).trans (h.block k hk hs)⟩
theorem Ex.of_below {S : Nat → Prop} {a w w' : World} (h : Ex S a w) (hb : Below w.heap.size w w') : Ex S a w' :=
  h.trans ⟨hb.os, hb.tape, hb.output, hb.size, fun k hk _ => hb.block k hk⟩
theorem Ex.below {S : Nat → Prop} {w w' : World} (h : Ex S w w') {B : Nat} (hB : B ≤ w.heap.size) (hS : ∀ k, S k → B ≤ k) : Below B w w' :=
  ⟨h.os, h.tape, h.output, h.size, fun k hk => h.block k (by omega) (fun hs => by have := hS k hs; omega)⟩

theorem Blk.lt {w : World} {b : Nat} {t : TypeId} {L : List Value} (h : Blk w b t L) : b < w.heap.size := (Array.getElem?_eq_some_iff.1 h).1
theorem Blk.ex {S : Nat → Prop} {w w' : World} {b : Nat} {t : TypeId} {L : List Value} (h : Blk w b t L) (he : Ex S w w') (hn : ¬ S b) : Blk w' b t L := (he.block b h.lt hn).trans h
theorem Blk.below {w w' : World} {B b : Nat} {t : TypeId} {L : List Value} (h : Blk w b t L) (hb : Below B w w') (hn : b < B) : Blk w' b t L := (hb.block b hn).trans h
theorem Blk.drew {w : World} {b : Nat} {t : TypeId} {L : List Value} (h : Blk w b t L) : Blk w.drew b t L := h
theorem Blk.alloc {w : World} {b : Nat} {t : TypeId} {L : List Value} (h : Blk w b t L) (o : Obj) : Blk (w.alloc o) b t L := (Below.heap_alloc _ _ _ h.lt).trans h
theorem Blk.new (w : World) (t : TypeId) (L : List Value) : Blk (w.alloc (.cells L.toArray t)) w.heap.size t L := by
  show (w.heap.push _)[w.heap.size]? = _
  simp
theorem Blk.setRow {w : World} {b : Nat} {t : TypeId} {L : List Value} (h : Blk w b t L) (M : List Value) : Blk (w.setRow b M.toArray) b t M := setRow_heap w b _ _ t _ h
theorem Blk.setRow_other {w : World} {b g : Nat} {t : TypeId} {L : List Value} (h : Blk w b t L) (hn : b ≠ g) (c : Array Value) : Blk (w.setRow g c) b t L := (Go.setRow_other w g b c hn).trans h
theorem Blk.cell {w : World} {b : Nat} {t : TypeId} {L : List Value} (h : Blk w b t L) (o : Nat) : w.cell? ⟨b, o, none⟩ = L[o]? := by
  simp [World.cell?, show w.heap[b]? = _ from h]
theorem Blk.frozen {w : World} {b : Nat} {t : TypeId} {L : List Value} (h : Blk w b t L) (o : Nat) : w.frozen? ⟨b, o, none⟩ = false := by
  simp [World.frozen?, show w.heap[b]? = _ from h]
theorem Blk.there {w : World} {b : Nat} {t : TypeId} {L : List Value} (h : Blk w b t L) (o n : Nat) (hn : o + n ≤ L.length) : w.there b o n := fun j hj => by
  refine ⟨?_, h.frozen _⟩
  rw [h.cell]; simp; omega
theorem Blk.range {w : World} {b : Nat} {t : TypeId} {L : List Value} (h : Blk w b t L) (o : Nat) (cs : List Value) (hc : ∀ j v, cs[j]? = some v → L[o + j]? = some v) : w.rangeAt b o cs := fun j v hv => by
  rw [h.cell]; exact hc j v hv
/-- A store of many cells into a block that is known. -/
theorem Blk.setCells {b : Nat} {t : TypeId} : ∀ (vs : List Value) (L : List Value) (o : Nat) (w : World), Blk w b t L → o + vs.length ≤ L.length → w.setCells b o vs = w.setRow b (splice L o vs).toArray
  | [], L, o, w, h, _ => by
    simp only [World.setCells, splice, List.nil_append, List.length_nil, Nat.add_zero, List.take_append_drop]
    exact (setRow_self w b _ t _ h).symm
  | v :: r, L, o, w, h, hl => by
    have e : w.setCell ⟨b, o, none⟩ v = w.setRow b (L.set o v).toArray := by
      rw [setCell_eq_setRow w b o _ t (0, 0) v h]; simp
    rw [World.setCells, e, Blk.setCells r (L.set o v) (o + 1) _ (h.setRow _) (by simp at hl ⊢; omega), setRow_setRow]
    congr 2
    simp only [splice]
    have := list_seg_step L o v r (by simp at hl; omega)
    simp only [List.append_assoc, List.length_cons] at this ⊢
    exact this

/-- A block behind a store of many cells. -/
theorem Blk.stored {w : World} {b : Nat} {t : TypeId} {L : List Value} (h : Blk w b t L) (o : Nat) (vs : List Value) (hl : o + vs.length ≤ L.length) : Blk (w.setCells b o vs) b t (splice L o vs) := by
  rw [Blk.setCells (t := t) vs L o w h hl]; exact h.setRow _
theorem Blk.stored_other {w : World} {b g : Nat} {t : TypeId} {L : List Value} (h : Blk w b t L) (hn : b ≠ g) (o : Nat) (vs : List Value) : Blk (w.setCells g o vs) b t L := by
  induction vs generalizing w o with
  | nil => exact h
  | cons v r ih => exact ih (w := w.setCell ⟨g, o, none⟩ v) ((Below.heap_setCell _ _ _ _ hn).trans h) (o + 1)
theorem Ex.setCells {S : Nat → Prop} {a w : World} (h : Ex S a w) {g : Nat} (hg : S g ∨ a.heap.size ≤ g) (o : Nat) (vs : List Value) : Ex S a (w.setCells g o vs) := by
  induction vs generalizing w o with
  | nil => exact h
  | cons v r ih =>
    refine ih (w := w.setCell ⟨g, o, none⟩ v) ⟨h.os, h.tape, h.output, by simpa [World.setCell] using h.size, fun k hk hs => ?_⟩ (o + 1)
    refine (Below.heap_setCell _ _ _ _ (show k ≠ g from ?_)).trans (h.block k hk hs)
    rcases hg with hg | hg
    · exact fun e => hs (e ▸ hg)
    · omega

/-- 'copy' between rows whose elements have 'size' cells. -/
theorem run_copy_wide {P : Program} (w : World) (dT sT ty elem size : Nat) (g o dLen dCap : Nat) (a : Addr) (sLen sCap : Nat) (cur : Array Value) (t : TypeId) (cs : List Value)
    (hu : P.underlying dT = some (.slice elem)) (hs : (P.info? elem).map (·.size) = some size)
    (hg : w.heap[g]? = some (.cells cur t (0, 0))) (hn : cs.length = Nat.min sLen dLen * size)
    (hsrc : ∀ j v, cs[j]? = some v → w.cell? (a.add j) = some v) (hfit : o + cs.length ≤ cur.size) (h1 : ∀ v ∈ cs, v.oneCell' = true) :
    (Builtin.copy_ #[dT, sT] ty #[.slice (some ⟨g, o, none⟩) dLen dCap, .slice (some a) sLen sCap]).run P w =
      .ok (goInt (Nat.min sLen dLen)) (w.setRow g (cur.toList.take o ++ cs ++ cur.toList.drop (o + cs.length)).toArray) := by
  have hl := run_loadCells_list (P := P) w a cs hsrc
  have hst := run_storeCells_at P g o t cs 0 cur w hg (by simpa using hfit) h1
  cases hq : P.info? elem with
  | none => simp [hq] at hs
  | some i =>
    have hi : i.size = size := by simpa [hq] using hs
    simp [Builtin.copy_, run_underlying hu, Builtin.lenOf, Builtin.firstCells, sizeOf, typeInfo, hq, hi, ← hn, hl, hst]

/-- The same as one step of a region that draws its order. -/
theorem step_copy_wide {P : Program} {ops : Array Oper} {o : Oper} {a : Act} {w : World} {K : Act → World → Prop} {Q : Exit → Act → World → Prop} {E : Prop} (hgd : o.guard = none) (d s : Operand) (dT sT : TypeId)
    (ho : o.op = .call { callee := .builtin .copy, args := #[d, s], argTypes := #[dT, sT] }) (elem size : Nat) (hu : P.underlying dT = some (.slice elem)) (hsz : (P.info? elem).map (·.size) = some size)
    (dLen dCap sLen sCap : Nat) (g off : Nat) (ad : Addr) (hd : a.eval d = .slice (some ⟨g, off, none⟩) dLen dCap) (hs : a.eval s = .slice (some ad) sLen sCap)
    (L : List Value) (t : TypeId) (hg : Blk w g t L) (cs : List Value) (hn : cs.length = Nat.min sLen dLen * size)
    (hsrc : ∀ j v, cs[j]? = some v → w.cell? (ad.add j) = some v) (hfit : off + cs.length ≤ L.length) (h1 : ∀ v ∈ cs, v.oneCell' = true)
    (h : K (a.put o.dst (goInt (Nat.min sLen dLen))) (w.setRow g (splice L off cs).toArray)) :
    if Region.wanted o (yielded ops a.tmps) = true then Oper.wp P o a w K Q else E := by
  have hw : Region.wanted o (yielded ops a.tmps) = true := by simp [Region.wanted, hgd]
  rw [if_pos hw]
  have hrun := run_copy_wide (P := P) w dT sT o.type elem size g off dLen dCap ad sLen sCap L.toArray t cs hu hsz hg hn hsrc (by simpa using hfit) h1
  unfold Oper.wp
  simp [execOp, ho, resolve, invoke, builtin, hd, hs, hrun, Result.andThen]
  show K _ _
  simpa [splice] using h

/-- A struct stored into a block that is known: the world behind it is a letter. -/
theorem wpList_store_blk {P : Program} {ops : Array Oper} {rest : List Oper} {op : Oper} {a : Act} {w : World} {Q : Exit → Act → World → Prop} (hgd : op.guard = none) (ty : TypeId) (x y : Operand) (ho : op.op = .store ty x y)
    (b o : Nat) (hx : a.eval x = .pointer (some ⟨b, o, none⟩)) (cs : List Value) (hy : a.eval y = .agg cs.toArray) (t : TypeId) (L : List Value) (hB : Blk w b t L) (hl : o + cs.length ≤ L.length)
    (hi : (P.info? ty).map (·.size) = some cs.length) (h1 : ∀ v ∈ cs, v.oneCell' = true)
    (h : ∀ w', Blk w' b t (splice L o cs) → Ex (fun k => k = b) w w' → wpList P ops Q rest (a.put op.dst undef) w') : wpList P ops Q (op :: rest) a w :=
  wpList_store_mid hgd ty x y ho b o cs.toArray hx hy (hB.there o _ (by simpa using hl)) (by simpa using hi) (all_oneCell_toArray h1) (h _ (hB.stored o cs hl) (Ex.setCells (S := fun k => k = b) (Ex.refl _ w) (.inl rfl) o cs))

/-- A struct loaded from a block that is known. -/
theorem wpList_load_blk {P : Program} {ops : Array Oper} {rest : List Oper} {op : Oper} {a : Act} {w : World} {Q : Exit → Act → World → Prop} (hgd : op.guard = none) (ty : TypeId) (x : Operand) (ho : op.op = .load ty x)
    (b o : Nat) (hx : a.eval x = .pointer (some ⟨b, o, none⟩)) (cs : List Value) (d : TypeDesc) (hc : w.rangeAt b o cs)
    (hu : P.underlying ty = some d) (hd : d.isRow = true) (hi : (P.info? ty).map (·.size) = some cs.length)
    (h : wpList P ops Q rest (a.put op.dst (.agg cs.toArray)) w) : wpList P ops Q (op :: rest) a w :=
  wpList_load_mid hgd ty x ho b o hx cs d hc hu hd hi h

/-! ### Rows made of one element again and again -/
/-- n times the cells cv. -/
def Rep (n : Nat) (cv : List Value) : List Value := (List.replicate n cv).flatten
theorem Rep_zero (cv : List Value) : Rep 0 cv = [] := rfl
theorem Rep_one (cv : List Value) : Rep 1 cv = cv := by simp [Rep]
theorem Rep_succ (n : Nat) (cv : List Value) : Rep (n + 1) cv = cv ++ Rep n cv := by simp [Rep, List.replicate_succ]
theorem Rep_add (n m : Nat) (cv : List Value) : Rep (n + m) cv = Rep n cv ++ Rep m cv := by simp [Rep, ← List.replicate_append_replicate]
theorem Rep_length (n : Nat) (cv : List Value) : (Rep n cv).length = n * cv.length := by
  induction n with
  | zero => simp [Rep_zero]
  | succ n ih => rw [Rep_succ, List.length_append, ih, Nat.succ_mul]; omega
theorem Rep_mem {n : Nat} {cv : List Value} {v : Value} (h : v ∈ Rep n cv) : v ∈ cv := by
  induction n with
  | zero => simp [Rep_zero] at h
  | succ n ih => rw [Rep_succ] at h; rcases List.mem_append.1 h with h | h; exact h; exact ih h
/-- Cell j of element i. -/
theorem Rep_get (n : Nat) (cv : List Value) (i j : Nat) (hi : i < n) (hj : j < cv.length) : (Rep n cv)[i * cv.length + j]? = cv[j]? := by
  induction n generalizing i with
  | zero => omega
  | succ n ih =>
    rw [Rep_succ]
    match i with
    | 0 => rw [List.getElem?_append_left (by omega)]; simp
    | i + 1 =>
      rw [List.getElem?_append_right (by rw [Nat.succ_mul]; omega), ← ih i (by omega)]
      congr 1; rw [Nat.succ_mul]; omega

theorem Rep_get? (n : Nat) (cv : List Value) (i : Nat) (hi : i < n * cv.length) : (Rep n cv)[i]? = cv[i % cv.length]? := by
  have hc : 0 < cv.length := by rcases Nat.eq_zero_or_pos cv.length with h | h; rw [h] at hi; omega; exact h
  have h1 : i / cv.length < n := Nat.div_lt_of_lt_mul (by rw [Nat.mul_comm]; exact hi)
  have h2 := Rep_get n cv (i / cv.length) (i % cv.length) h1 (Nat.mod_lt _ hc)
  rwa [Nat.mul_comm, Nat.div_add_mod] at h2

theorem madeCells_Rep (z : Array Value) (n : Nat) : (madeCells z (n * z.size)).toList = Rep n z.toList := by
  apply List.ext_getElem?
  intro i
  by_cases hi : i < n * z.size
  · rw [Rep_get? _ _ _ (by simpa using hi)]
    have hc : 0 < z.size := by rcases Nat.eq_zero_or_pos z.size with h | h; rw [h] at hi; omega; exact h
    have hm : i % z.size < z.size := Nat.mod_lt _ hc
    simp [madeCells, hi, hm]
  · rw [List.getElem?_eq_none (by simp [madeCells]; omega), List.getElem?_eq_none (by rw [Rep_length]; simp; omega)]

/-- 'make([]T, n)': a new block, n zero elements; the world behind it is a letter. -/
theorem wpList_make_blk {P : Program} {w : World} {ops : Array Oper} {rest : List Oper} {o : Oper} {a : Act} {Q : Exit → Act → World → Prop}
    (hg : o.guard = none) (l c : Operand) (t : TypeId) (hop : o.op = Op.makeSlice t l c)
    (e : TypeId) (z : Value) (size bytes : Nat) (h1 : P.underlying t = some (.slice e)) (h2 : (P.info? e).map (fun i => (i.zero, i.size, i.bytes)) = some (some z, size, bytes)) (hz : z.cells.size = size)
    (n : Nat) (hl : a.eval l = .int .i64 (n : Int)) (hc : a.eval c = .int .i64 (n : Int)) (b2 : bytes * n ≤ 281474976710656) (b3 : n ≤ 9223372036854775807)
    (hK : ∀ w', Blk w' w.heap.size e (Rep n z.cells.toList) → Below w.heap.size w w' → w'.heap.size = w.heap.size + 1 → wpList P ops Q rest (a.put o.dst (.slice (some ⟨w.heap.size, 0, none⟩) n n)) w') :
    wpList P ops Q (o :: rest) a w := by
  refine wpList_plain hg fun K hK' => ?_
  cases hq : P.info? e with
  | none => simp [hq] at h2
  | some i =>
    simp [hq] at h2
    obtain ⟨i1, i2, i3⟩ := h2
    have hb' : (i.bytes : Int) * (n : Int) ≤ 281474976710656 := by
      rw [i3]
      have : ((bytes * n : Nat) : Int) ≤ 281474976710656 := by omega
      rwa [Int.natCast_mul] at this
    have hrun := run_make (P := P) w t e i z h1 hq i1 .i64 .i64 (n : Int) (n : Int) (by omega) (Int.le_refl _) hb' (by omega)
    simp only [Int.toNat_natCast] at hrun
    unfold Oper.wp
    simp [execOp, hop, hl, hc, hrun, Result.andThen]
    refine hK' _ _ (hK _ ?_ ((Below.refl _ w).alloc (Nat.le_refl _) _) (by simp))
    have e1 : madeCells z.cells (n * i.size) = (Rep n z.cells.toList).toArray := by
      rw [← madeCells_Rep, hz, i2]
    rw [e1]
    exact Blk.new w e _

end Go.Proofs.Qxb6604013a
