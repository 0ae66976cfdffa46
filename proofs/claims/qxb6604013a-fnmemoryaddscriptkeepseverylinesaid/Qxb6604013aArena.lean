import Derived.Test.Qxb6604013aRun2
import Derived.Deep.AppendLies
namespace Go.Proofs.Qxb6604013a
open Go.RowKit
set_option linter.unusedVariables false
attribute [local go_sem ↓] Go.wp_at_zero Go.wp_at_succ

/-- 'clear' over a whole row that is known. -/
theorem wpList_clear_blk {P : Program} {w : World} {ops : Array Oper} {rest : List Oper} {o : Oper} {a : Act} {Q : Exit → Act → World → Prop}
    (hg : o.guard = none) (x : Operand) (t : TypeId) (hop : o.op = Op.call { callee := Callee.builtin Builtin.clear, args := #[x], argTypes := #[t] })
    (e : TypeId) (z : Value) (size bytes : Nat) (h1 : P.underlying t = some (.slice e)) (h2 : (P.info? e).map (fun i => (i.zero, i.size, i.bytes)) = some (some z, size, bytes)) (hz : z.cells.size = size)
    (b n c : Nat) (hn : 0 < n) (hx : a.eval x = .slice (some ⟨b, 0, none⟩) n c) (L : List Value) (te : TypeId) (hB : Blk w b te L) (hL : L.length = n * size) (hone : ∀ v ∈ z.cells.toList, v.oneCell' = true)
    (hK : ∀ w', Blk w' b te (Rep n z.cells.toList) → Ex (fun k => k = b) w w' → wpList P ops Q rest (a.put o.dst (.tuple #[])) w') :
    wpList P ops Q (o :: rest) a w := by
  refine wpList_plain hg fun K hK' => ?_
  cases hq : P.info? e with
  | none => simp [hq] at h2
  | some i =>
    simp [hq] at h2
    obtain ⟨i1, i2, i3⟩ := h2
    have hzc : (Builtin.zeroCells z.cells n).toList = Rep n z.cells.toList := madeCells_Rep z.cells n
    have hlen : (Rep n z.cells.toList).length = n * size := by rw [Rep_length]; simp [hz]
    have hst := run_storeCells_at P b 0 te (Rep n z.cells.toList) 0 L.toArray w hB (by simp [hlen, hL]) (fun v hv => hone v (Rep_mem hv))
    have he : (L.toArray.toList.take (0 + 0) ++ Rep n z.cells.toList ++ L.toArray.toList.drop (0 + 0 + (Rep n z.cells.toList).length)) = Rep n z.cells.toList := by
      simp [hlen, ← hL]
    rw [he] at hst
    have hv : (zeroValue e).run P w = .ok z w := by simp [zeroValue, typeInfo, hq, i1]
    obtain ⟨m, rfl⟩ : ∃ m, n = m + 1 := ⟨n - 1, by omega⟩
    have hrun : (Builtin.clear_ #[t] o.type #[.slice (some ⟨b, 0, none⟩) (m + 1) c]).run P w = .ok (.tuple #[]) (w.setRow b (Rep (m + 1) z.cells.toList).toArray) := by
      simp [Builtin.clear_, run_underlying h1, hv, hzc, hst]
    unfold Oper.wp
    simp [execOp, hop, resolve, invoke, builtin, hx, hrun, Result.andThen]
    exact hK' _ _ (hK _ (hB.setRow _) (Ex.setRow (S := fun k => k = b) (Ex.refl _ w) rfl _))

theorem info57 : (Try.prog.info? 57).map (fun i => (i.zero, i.size, i.bytes)) = some (some (.agg #[.slice none 0 0, .int .u32 0, .int .u32 0, .int .u8 0]), 4, 40) := by kernel_rfl

set_option maxHeartbeats 400000 in
theorem resident29 (n : Nat) (w : World) (h0 : 0 < n) (hn : n ≤ 1048576) :
    Calls Try.prog 29 #[.int .i64 n] w fun e w' => e = .returned (.slice (some ⟨w.heap.size, 0, none⟩) 0 n) ∧ (Blk w' w.heap.size 5 (Rep n (Value.int .u8 0).cells.toList)) ∧ Below w.heap.size w w' := by
  have hl : (Rep n (Value.int .u8 0).cells.toList).length = n * 1 := by rw [Rep_length]; simp [Value.cells]
  go_enter Try.func29, Try.ntmps29
  go_wp2_with (first | (at_make; refine wpList_make_blk (by rfl) (.tmp 4) (.tmp 4) 22 (by rfl) 5 _ 1 1 Try.underlying22 info5 (by rfl) n (by rfl) (by rfl) (by omega) (by omega) ?_; intro w2 hT hb2 hs2) | (refine wpList_clear_blk (by rfl) (.tmp 6) 22 (by rfl) 5 _ 1 1 Try.underlying22 info5 (by rfl) w.heap.size n n h0 (by rfl) _ 5 hT hl (by simp [Value.cells, Value.oneCell']) ?_; intro w3 hT3 he3))
  go_ret
  exact ⟨rfl, hT3, hb2.trans (he3.below hb2.size (by omega))⟩

set_option maxHeartbeats 400000 in
theorem resident30 (n : Nat) (w : World) (h0 : 0 < n) (hn : n ≤ 1048576) :
    Calls Try.prog 30 #[.int .i64 n] w fun e w' => e = .returned (.slice (some ⟨w.heap.size, 0, none⟩) 0 n) ∧ (Blk w' w.heap.size 57 (Rep n (Value.agg #[.slice none 0 0, .int .u32 0, .int .u32 0, .int .u8 0]).cells.toList)) ∧ Below w.heap.size w w' := by
  have hl : (Rep n (Value.agg #[.slice none 0 0, .int .u32 0, .int .u32 0, .int .u8 0]).cells.toList).length = n * 4 := by rw [Rep_length]; simp [Value.cells]
  go_enter Try.func30, Try.ntmps30
  go_wp2_with (first | (at_make; refine wpList_make_blk (by rfl) (.tmp 4) (.tmp 4) 37 (by rfl) 57 _ 4 40 Try.underlying37 info57 (by rfl) n (by rfl) (by rfl) (by omega) (by omega) ?_; intro w2 hT hb2 hs2) | (refine wpList_clear_blk (by rfl) (.tmp 6) 37 (by rfl) 57 _ 4 40 Try.underlying37 info57 (by rfl) w.heap.size n n h0 (by rfl) _ 57 hT hl (by simp [Value.cells, Value.oneCell']) ?_; intro w3 hT3 he3))
  go_ret
  exact ⟨rfl, hT3, hb2.trans (he3.below hb2.size (by omega))⟩


/-! ### The arena: chunks of memory, handed out from the front -/
/-- A chunk: its block, how many of its elements are handed out, how many it has. -/
abbrev Ck := Nat × Nat × Nat
def ckv (c : Ck) : Value := .slice (some ⟨c.1, 0, none⟩) c.2.1 c.2.2
/-- The arena whose slice of chunks is hv: he: the type of a chunk's slice, e: of an element, which has 'size' cells; all its blocks from N on. -/
structure Arena (w : World) (N he e size : Nat) (hv : Value) (p : Nat) (cks : List Ck) : Prop where
  own : w.ownsRow N he 1 hv cks.length (cks.map ckv)
  chunk : ∀ c ∈ cks, N ≤ c.1 ∧ (∃ L, Blk w c.1 e L ∧ L.length = c.2.2 * size) ∧ c.2.1 ≤ c.2.2 ∧ c.2.2 ≤ 1048576
  nodup : (cks.map (·.1)).Nodup
  at_le : p ≤ cks.length

/-- A block of the arena's own slice of chunks. -/
def HdrBlk (w : World) (N he : Nat) (b : Nat) : Prop := N ≤ b ∧ ∃ L, Blk w b he L

theorem Arena.form {w : World} {N he e size : Nat} {hv : Value} {p : Nat} {cks : List Ck} (h : Arena w N he e size hv p cks) :
    ∃ ao hb hc, hv = .slice ao cks.length hc ∧ (0 < cks.length → ao = some ⟨hb, 0, none⟩ ∧ hv = .slice (some ⟨hb, 0, none⟩) cks.length hc ∧ HdrBlk w N he hb) := by
  rcases h.own.2 with ⟨h1, h2⟩ | ⟨g, cap, cur, h1, h2, h3, _⟩
  · exact ⟨none, 0, 0, by rw [h2]; exact h1, fun hp => by omega⟩
  · exact ⟨some ⟨g, 0, none⟩, g, cap, h1, fun _ => ⟨rfl, h1, h2, cur.toList, h3⟩⟩

theorem Blk.type_eq {w : World} {b t t' : Nat} {L L' : List Value} (h : Blk w b t L) (h' : Blk w b t' L') : t = t' := by
  have h2 : w.heap[b]? = _ := h
  have h3 : w.heap[b]? = _ := h'
  rw [h2] at h3
  simp at h3
  exact h3.2
theorem Blk.ne {w : World} {b b' t t' : Nat} {L L' : List Value} (h : Blk w b t L) (h' : Blk w b' t' L') (hne : t ≠ t') : b ≠ b' := fun e => hne (by subst e; exact h.type_eq h')

/-- The arena stands where only other blocks are written. -/
theorem Arena.ex {w w' : World} {N he e size : Nat} {hv : Value} {p : Nat} {cks : List Ck} {S : Nat → Prop} (h : Arena w N he e size hv p cks) (hx : Ex S w w')
    (hS : ∀ k, S k → k < w.heap.size → ¬ (N ≤ k ∧ ((∃ L, Blk w k he L) ∨ ∃ L, Blk w k e L))) : Arena w' N he e size hv p cks := by
  refine ⟨⟨h.own.1, ?_⟩, fun c hc => ?_, h.nodup, h.at_le⟩
  · rcases h.own.2 with h1 | ⟨g, cap, cur, h1, h2, h3, h4⟩
    · exact .inl h1
    · have hb : Blk w g he cur.toList := h3
      refine .inr ⟨g, cap, cur, h1, h2, ?_, h4⟩
      exact hb.ex hx (fun hs => hS g hs hb.lt ⟨h2, .inl ⟨_, hb⟩⟩)
  · obtain ⟨h1, ⟨L, h2, h3⟩, h4⟩ := h.chunk c hc
    exact ⟨h1, ⟨L, h2.ex hx (fun hs => hS _ hs h2.lt ⟨h1, .inr ⟨_, h2⟩⟩), h3⟩, h4⟩

/-- What a call of take leaves. -/
def TakeAns (w : World) (Mb o N he e size n : Nat) (M : List Value) (cks : List Ck) (r : Ending) (w' : World) : Prop :=
  ∃ hv' p' cks' g k, r = .returned (.slice (some ⟨g, if n = 0 then 0 else k * size, none⟩) n n) ∧ Blk w' Mb 36 ((M.set o hv').set (o + 1) (.int .i64 ((p' : Nat) : Int))) ∧ Arena w' N he e size hv' p' cks' ∧
    cks'.length ≤ cks.length + 1 ∧ N ≤ g ∧ (∃ cap, (g, k + n, cap) ∈ cks') ∧ (∀ c ∈ cks, c.1 ≠ g → c ∈ cks') ∧ (∀ c ∈ cks, c.1 = g → c.2.1 ≤ k) ∧ Ex (fun b => b = Mb ∨ HdrBlk w N he b) w w'

theorem info22 : (Try.prog.info? 22).map (fun i => (i.zero, i.size, i.bytes)) = some (some (.slice none 0 0), 1, 24) := by kernel_rfl
theorem info37 : (Try.prog.info? 37).map (fun i => (i.zero, i.size, i.bytes)) = some (some (.slice none 0 0), 1, 24) := by kernel_rfl

/-- take found room in chunk p. -/
theorem Arena.room {w : World} {N he e size : Nat} {hb hc : Nat} {p q : Nat} {cks : List Ck} (h : Arena w N he e size (.slice (some ⟨hb, 0, none⟩) cks.length hc) q cks) (hp : p < cks.length) (hne : he ≠ e) (n : Nat)
    (hn : (cks[p]).2.1 + n ≤ (cks[p]).2.2) :
    Arena (w.setCell ⟨hb, p, none⟩ (ckv ((cks[p]).1, (cks[p]).2.1 + n, (cks[p]).2.2))) N he e size (.slice (some ⟨hb, 0, none⟩) cks.length hc) p (cks.set p ((cks[p]).1, (cks[p]).2.1 + n, (cks[p]).2.2)) ∧
    Ex (fun b => HdrBlk w N he b) w (w.setCell ⟨hb, p, none⟩ (ckv ((cks[p]).1, (cks[p]).2.1 + n, (cks[p]).2.2))) := by
  have hst := h.own.stored p (ckv ((cks[p]).1, (cks[p]).2.1 + n, (cks[p]).2.2))
  obtain ⟨ao, hb', hc', e1, e2⟩ := h.form
  obtain ⟨_, e4, hhb⟩ := e2 (by omega)
  simp only [Value.slice.injEq, Option.some.injEq, Addr.mk.injEq, and_true, true_and] at e4
  obtain ⟨rfl, rfl⟩ := e4
  refine ⟨⟨?_, fun c hc => ?_, ?_, by simp; omega⟩, ⟨rfl, rfl, rfl, by simp, fun k hk hs => Below.heap_setCell _ _ _ _ (fun e => hs (by rw [e]; exact hhb))⟩⟩
  · have := hst.1
    rw [List.map_set, List.length_set]
    exact this
  · rcases List.mem_or_eq_of_mem_set hc with hm | rfl
    · obtain ⟨h1, ⟨L, h2, h3⟩, h4⟩ := h.chunk c hm
      obtain ⟨_, L', hL'⟩ := hhb
      exact ⟨h1, ⟨L, h2.setCell_other (h2.ne hL' hne.symm) _, h3⟩, h4⟩
    · obtain ⟨h1, ⟨L, h2, h3⟩, h4⟩ := h.chunk (cks[p]) (List.getElem_mem _)
      obtain ⟨_, L', hL'⟩ := hhb
      exact ⟨h1, ⟨L, h2.setCell_other (h2.ne hL' hne.symm) _, h3⟩, hn, h4.2⟩
  · have : (cks.set p ((cks[p]).1, (cks[p]).2.1 + n, (cks[p]).2.2)).map (·.1) = cks.map (·.1) := by
      rw [List.map_set]
      apply List.ext_getElem?
      intro i
      by_cases e : i = p
      · subst e; simp [hp]
      · rw [List.getElem?_set_ne (by omega)]
    rw [this]; exact h.nodup


theorem Arena.drew {w : World} {N he e size : Nat} {hv : Value} {p : Nat} {cks : List Ck} (h : Arena w N he e size hv p cks) : Arena w.drew N he e size hv p cks :=
  h.ex ((Ex.refl (fun _ => False) w).drew) (fun k hk => hk.elim)
theorem Arena.atp {w : World} {N he e size : Nat} {hv : Value} {p p' : Nat} {cks : List Ck} (h : Arena w N he e size hv p cks) (hp : p' ≤ cks.length) : Arena w N he e size hv p' cks := ⟨h.own, h.chunk, h.nodup, hp⟩
theorem HdrBlk.back {w w' : World} {N he b Mb : Nat} (h : HdrBlk w' N he b) (hx : Ex (fun k => k = Mb) w w') (hMN : Mb < N) (hb : b < w.heap.size) : HdrBlk w N he b := by
  obtain ⟨h1, L, h2⟩ := h
  exact ⟨h1, L, (hx.block b hb (by omega)).symm.trans h2⟩
theorem set_same {M : List Value} {i : Nat} {v : Value} (h : M[i]? = some v) : M.set i v = M := by
  apply List.ext_getElem?
  intro j
  by_cases e : j = i
  · subst e; rw [h]; simp [(List.getElem?_eq_some_iff.1 h).1]
  · rw [List.getElem?_set_ne (by omega)]

theorem nodup_inj {α : Type} {l : List α} (h : l.Nodup) {i j : Nat} (hi : i < l.length) (hj : j < l.length) (e : l[i] = l[j]) : i = j := by
  have hp := List.pairwise_iff_getElem.1 h
  rcases Nat.lt_trichotomy i j with hlt | heq | hgt
  · exact absurd e (hp i j hi hj hlt)
  · exact heq
  · exact absurd e.symm (hp j i hj hi hgt)

/-- The answer where chunk q had room. -/
theorem takeAns_room {w wr : World} {Mb o N he e size n hb hc q p : Nat} {M : List Value} {cks : List Ck} {ad : Addr} {v : Value} (ck : Ck) (hM0 : M[o]? = some (.slice (some ⟨hb, 0, none⟩) cks.length hc))
    (hMr : Blk wr Mb 36 (M.set (o + 1) (.int .i64 (q : Int)))) (hAr : Arena wr N he e size (.slice (some ⟨hb, 0, none⟩) cks.length hc) p cks) (hMN : Mb < N) (hex : Ex (fun b => b = Mb) w wr) (hne : he ≠ e) (hq : q < cks.length) (hck : ck = cks[q]) (hroom : ck.2.1 + n ≤ ck.2.2)
    (hv : v = ckv (ck.1, ck.2.1 + n, ck.2.2)) (had : ad = ⟨ck.1, if n = 0 then 0 else ck.2.1 * size, none⟩) :
    TakeAns w Mb o N he e size n M cks (.returned (.slice (some ad) n n)) ((wr.setCell ⟨hb, q, none⟩ v).drew.drew.drew) := by
  subst hck; subst hv; subst had
  obtain ⟨r1, r2⟩ := hAr.room hq hne n hroom
  have hc1 := (hAr.chunk (cks[q]) (List.getElem_mem _)).1
  have hbN : N ≤ hb := by
    obtain ⟨ao, hb', hc', e1, e2⟩ := hAr.form
    obtain ⟨_, e4, hhb⟩ := e2 (by omega)
    simp only [Value.slice.injEq, Option.some.injEq, Addr.mk.injEq, and_true, true_and] at e4
    rw [e4.1]; exact hhb.1
  refine ⟨.slice (some ⟨hb, 0, none⟩) cks.length hc, q, cks.set q ((cks[q]).1, (cks[q]).2.1 + n, (cks[q]).2.2), (cks[q]).1, (cks[q]).2.1, rfl, ?_, r1.drew.drew.drew, by simp, hc1, ⟨(cks[q]).2.2, List.mem_set hq _⟩, fun c hc hcn => ?_, fun c hc hce => ?_, ?_⟩
  · rw [set_same hM0]
    exact hMr.setCell_other (by simp; omega) _
  · obtain ⟨i, hi, rfl⟩ := List.getElem_of_mem hc
    by_cases e : i = q
    · subst e; exact absurd rfl hcn
    · have : (cks.set q ((cks[q]).1, (cks[q]).2.1 + n, (cks[q]).2.2))[i]? = some cks[i] := by rw [List.getElem?_set_ne (by omega)]; simp
      exact List.mem_of_getElem? this
  · obtain ⟨i, hi, rfl⟩ := List.getElem_of_mem hc
    have : i = q := by
      have hnd := hAr.nodup
      have h1 : (cks.map (·.1))[i]'(by simpa using hi) = (cks.map (·.1))[q]'(by simpa using hq) := by simpa using hce
      exact nodup_inj hnd _ _ h1
    subst this
    exact Nat.le_refl _
  · exact ⟨r2.os.trans hex.os, r2.tape.trans hex.tape, r2.output.trans hex.output, Nat.le_trans hex.size r2.size, fun k hk hs =>
      (r2.block k (Nat.lt_of_lt_of_le hk hex.size) (fun hh => hs (.inr (hh.back hex hMN hk)))).trans (hex.block k hk (fun hh => hs (.inl hh)))⟩


/-- The Memory's cells behind the append. -/
theorem takeAns_cell {wr w5 w6 : World} {Mb N he e size hc p : Nat} {cks : List Ck} {ao : Option Addr} {ob : Obj} {v : Value}
    (hAr : Arena wr N he e size (.slice ao cks.length hc) p cks) (hMN : Mb < N) (hMlt : Mb < wr.heap.size) (hb5 : Below wr.heap.size wr w5) (hgrow : (w5.alloc ob).grownBy w6 (Value.slice ao cks.length hc).ownBlock) (o : Nat) (hx : w5.cell? ⟨Mb, o, none⟩ = some v) :
    w6.cell? ⟨Mb, o, none⟩ = some v ∧ (wr.frozen? ⟨Mb, o, none⟩ = false → w6.frozen? ⟨Mb, o, none⟩ = false) := by
  have hs5 := hb5.size
  have hb : w6.heap[Mb]? = w5.heap[Mb]? := by
    refine (hgrow.block Mb (by simp; omega) (fun e => ?_)).trans (Below.heap_alloc _ _ _ (by omega))
    have := (hAr.own.lt Mb e.symm).1
    omega
  refine ⟨?_, fun hf => ?_⟩
  · rw [World.cell?_of_block (w := w5) (w' := w6) (a := ⟨Mb, o, none⟩) hb]; exact hx
  · rw [World.frozen?_of_block (w := w5) (w' := w6) (a := ⟨Mb, o, none⟩) hb, hb5.frozen (p := ⟨Mb, o, none⟩) hMlt]; exact hf

/-- The answer where a new chunk was made. -/
theorem takeAns_new {w wr w5 w6 : World} {Mb o N he e size n hc g cap X p : Nat} {M : List Value} {cks : List Ck} {ao : Option Addr} {L5 : List Value} {ob : Obj}
    (hMr : Blk wr Mb 36 (M.set (o + 1) (.int .i64 (cks.length : Int)))) (hAr : Arena wr N he e size (.slice ao cks.length hc) p cks) (hMN : Mb < N) (hNs : N ≤ w.heap.size) (hex : Ex (fun b => b = Mb) w wr) (hne : he ≠ e)
    (hne2 : he ≠ 36) (hT5 : Blk w5 wr.heap.size e L5) (hL5 : L5.length = X * size) (hnX : n ≤ X) (hX : X ≤ 1048576) (hb5 : Below wr.heap.size wr w5)
    (hown : w6.ownsRow N he 1 (.slice (some ⟨g, 0, none⟩) (cks.length + 1) cap) (cks.length + 1) (cks.map ckv ++ [ckv (wr.heap.size, n, X)])) (hgrow : (w5.alloc ob).grownBy w6 (Value.slice ao cks.length hc).ownBlock) :
    TakeAns w Mb o N he e size n M cks (.returned (.slice (some ⟨wr.heap.size, 0, none⟩) n n)) (w6.setCell ⟨Mb, o, none⟩ (.slice (some ⟨g, 0, none⟩) (cks.length + 1) cap)) := by
  have hsz := hex.size
  have hs5 := hb5.size
  -- what the append may have written is a block of the arena's own slice
  have hrow : ∀ k, (Value.slice ao cks.length hc).ownBlock = some k → HdrBlk wr N he k := by
    intro k hk
    rcases hAr.own.2 with ⟨h1, _⟩ | ⟨g', cap', cur, h1, h2, h3, _⟩
    · rw [h1] at hk; simp [Value.ownBlock] at hk
    · rw [h1] at hk
      simp [Value.ownBlock] at hk
      subst hk
      exact ⟨h2, cur.toList, h3⟩
  -- a block that stood in wr and is none of those
  have keep : ∀ k, k < wr.heap.size → ¬ HdrBlk wr N he k → k ≠ Mb → (w6.setCell ⟨Mb, o, none⟩ (.slice (some ⟨g, 0, none⟩) (cks.length + 1) cap)).heap[k]? = wr.heap[k]? := by
    intro k hk hh hm
    rw [Below.heap_setCell _ _ _ _ hm, hgrow.block k (by simp; omega) (fun e => hh (hrow k e.symm)), Below.heap_alloc _ _ _ (by omega), hb5.block k hk]
  have hlt6 : w5.heap.size < w6.heap.size := by have := hgrow.size; simp at this; omega
  have hT6 : Blk (w6.setCell ⟨Mb, o, none⟩ (.slice (some ⟨g, 0, none⟩) (cks.length + 1) cap)) wr.heap.size e L5 := by
    have hTl := hT5.lt
    refine Blk.setCell_other (h := ?_) (by simp; have := hMr.lt; omega) _
    refine (hgrow.block wr.heap.size (by simp; omega) (fun e => ?_)).trans (hT5.alloc ob)
    have := hrow _ e.symm
    obtain ⟨_, L, hL⟩ := this
    have := hL.lt
    omega
  refine ⟨.slice (some ⟨g, 0, none⟩) (cks.length + 1) cap, cks.length, cks ++ [(wr.heap.size, n, X)], wr.heap.size, 0, by simp, ?_, ⟨?_, fun c hc => ?_, ?_, by simp⟩, by simp, by omega, ⟨X, by simp⟩, fun c hc _ => by simp [hc], fun c hc hce => ?_, ?_⟩
  · have h6 : Blk w6 Mb 36 (M.set (o + 1) (.int .i64 (cks.length : Int))) := by
      have hMl := hMr.lt
      refine (hgrow.block Mb (by simp; omega) (fun e => ?_)).trans ((hMr.below hb5 hMl).alloc ob)
      have := (hrow _ e.symm).1
      omega
    have := h6.setCell o (.slice (some ⟨g, 0, none⟩) (cks.length + 1) cap)
    rw [List.set_comm _ _ (by omega)] at this
    exact this
  · have e1 : (cks ++ [(wr.heap.size, n, X)]).map ckv = cks.map ckv ++ [ckv (wr.heap.size, n, X)] := by simp
    have e2 : (cks ++ [(wr.heap.size, n, X)]).length = cks.length + 1 := by simp
    rw [e1, e2]
    exact ownsRow_setCell_below hown (a := ⟨Mb, o, none⟩) (show Mb < N from hMN) _
  · rcases List.mem_append.1 hc with hm | hm
    · obtain ⟨h1, ⟨L, h2, h3⟩, h4⟩ := hAr.chunk c hm
      refine ⟨h1, ⟨L, (keep c.1 h2.lt (fun hh => ?_) (by omega)).trans h2, h3⟩, h4⟩
      obtain ⟨_, L', hL'⟩ := hh
      exact hne (hL'.type_eq h2)
    · simp at hm
      subst hm
      exact ⟨by show N ≤ wr.heap.size; omega, ⟨L5, hT6, hL5⟩, hnX, hX⟩
  · rw [List.map_append, List.nodup_append]
    refine ⟨hAr.nodup, by simp, fun x hx y hy => ?_⟩
    obtain ⟨c, hc, rfl⟩ := List.mem_map.1 hx
    obtain ⟨_, ⟨L, h2, _⟩, _⟩ := hAr.chunk c hc
    have := h2.lt
    simp at hy
    subst hy
    omega
  · obtain ⟨_, ⟨L, h2, _⟩, _⟩ := hAr.chunk c hc
    have := h2.lt
    omega
  · refine ⟨(hgrow.os.trans (hb5.os.trans hex.os)), hgrow.tape.trans (hb5.tape.trans hex.tape), hgrow.output.trans (hb5.output.trans hex.output), by have := hgrow.size; simp at *; omega, fun k hk hs => ?_⟩
    exact (keep k (by omega) (fun hh => hs (.inr (hh.back hex hMN hk))) (fun e => hs (.inl e))).trans (hex.block k hk (fun hh => hs (.inl hh)))

end Go.Proofs.Qxb6604013a
