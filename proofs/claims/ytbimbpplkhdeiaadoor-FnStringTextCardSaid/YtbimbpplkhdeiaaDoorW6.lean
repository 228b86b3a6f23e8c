/- A buffer of bytes beside a row of four bytes that is written again and again. -/
import Derived.Test.YtbimbpplkhdeiaaDoorW5
import Derived.Laws.MakeOwn
import Derived.Laws.IdiomCopy
import Derived.Deep.MidRow
import Derived.Deep.Upon
import Derived.Lib.LazyBuf
namespace Go.Proofs.YtbimbpplkhdeiaaDoor
open Go.RowKit

/-- Block g holds four cells that may be written. -/
def Tmp (g : Nat) (w : World) : Prop := g < w.heap.size ∧ ∀ j, j < 4 → (w.cell? ⟨g, j, none⟩).isSome = true ∧ w.frozen? ⟨g, j, none⟩ = false
/-- The slice v holds the bytes l behind block W.heap.size, which holds four cells; all that is older is as in W. -/
def TQ (W wr : World) (v : Value) (l : List UInt8) : Prop := ∃ wx, OB (W.heap.size + 1) wx wr v l ∧ Below W.heap.size W wx ∧ Tmp W.heap.size wx
theorem Tmp.below {g : Nat} {w w' : World} (h : Tmp g w) (hb : Below (g + 1) w w') : Tmp g w' :=
  ⟨Nat.lt_of_lt_of_le h.1 hb.size, fun j hj => by rw [hb.cell (p := ⟨g, j, none⟩) (by simp), hb.frozen (p := ⟨g, j, none⟩) (by simp)]; exact h.2 j hj⟩
theorem TQ.tmp {W wr : World} {v : Value} {l : List UInt8} (h : TQ W wr v l) : Tmp W.heap.size wr := by
  obtain ⟨wx, ho, hx, hm⟩ := h; exact hm.below ho.2.1
theorem TQ.to {W wr : World} {v : Value} {l : List UInt8} (h : TQ W wr v l) : Below W.heap.size W wr := by
  obtain ⟨wx, ho, hx, hm⟩ := h; exact hx.trans (ho.2.1.mono (by omega))
theorem TQ.drewN {W wr : World} {v : Value} {l : List UInt8} (h : TQ W wr v l) (q : Nat) : TQ W (wr.drewN q) v l := by
  obtain ⟨wx, ho, hx, hm⟩ := h; exact ⟨wx, ho.drewN q, hx, hm⟩
theorem TQ.below {W wr w' : World} {v : Value} {l : List UInt8} (h : TQ W wr v l) (hb : Below wr.heap.size wr w') : TQ W w' v l := by
  obtain ⟨wx, ho, hx, hm⟩ := h; exact ⟨wx, ho.below hb, hx, hm⟩
theorem TQ.set {W wr : World} {v : Value} {l : List UInt8} (h : TQ W wr v l) (vs : List Value) : TQ W (wr.setCells W.heap.size 0 vs) v l := by
  have ht := h.tmp
  have hto := h.to
  obtain ⟨wx, ho, hx, hm⟩ := h
  have hb : Below W.heap.size wr (wr.setCells W.heap.size 0 vs) := below_setCells (Nat.le_refl _) vs 0 wr (Below.refl _ _)
  refine ⟨wr.setCells W.heap.size 0 vs, ⟨⟨ho.1.1, ?_⟩, Below.refl _ _, Nat.le_trans ho.2.2 hb.size⟩, hto.trans hb, Nat.lt_of_lt_of_le ht.1 hb.size, fun j hj => ⟨?_, ?_⟩⟩
  · rcases ho.1.2 with h1 | ⟨g, cap, cur, hv, hB, hg, r⟩
    · exact .inl h1
    · exact .inr ⟨g, cap, cur, hv, hB, (World.heap_setCells_other wr W.heap.size 0 vs (Array.getElem?_eq_some_iff.1 hg).1 (by omega)).trans hg, r⟩
  · exact World.isSome_setCells W.heap.size vs 0 wr _ (ht.2 j hj).1
  · rw [World.frozen?_setCells]; exact (ht.2 j hj).2
/-- The bytes just written, as a row. -/
theorem TQ.row {W wr : World} {v : Value} {l : List UInt8} (h : TQ W wr v l) (r : Int) : Row 0 .u8 (wr.setCells W.heap.size 0 (Lib.runeCells r)) (.slice (some ⟨W.heap.size, 0, none⟩) (Lib.runeCells r).length 4) ((Lib.encodeRune r).map (·.toNat)) := by
  have ht := h.tmp
  have hl := Lib.runeCells_le r
  have hlen := Lib.runeCells_length r
  have hb : Below W.heap.size wr (wr.setCells W.heap.size 0 (Lib.runeCells r)) := below_setCells (Nat.le_refl _) _ 0 wr (Below.refl _ _)
  refine .inr ⟨by rw [List.length_map, ← hlen]; omega, W.heap.size, 0, 4, by rw [List.length_map, hlen], by rw [List.length_map, ← hlen]; exact hl.2, Nat.zero_le _, Nat.lt_of_lt_of_le ht.1 hb.size, fun i hi => ?_⟩
  rw [List.length_map, ← hlen] at hi
  have e := World.cell?_setCells_in W.heap.size (Lib.runeCells r) 0 wr (fun j hj => by rw [Nat.zero_add]; exact (ht.2 j (by omega)).1) i hi
  rw [e]
  simp only [Lib.runeCells, Lib.encodeRune] at hi ⊢
  simp only [List.length_map] at hi
  simp only [List.getElem_map, List.map_map, List.getD_eq_getElem?_getD, List.getElem?_map, List.getElem?_eq_getElem hi, Option.map_some, Option.getD_some, Function.comp]
  rw [byte_back _ (Lib.encodeRuneZ_byte r _ (List.getElem_mem hi))]

theorem tq_byte {ops : Array Oper} {rest : List Oper} {o : Oper} {a : Act} {Q : Exit → Act → World → Prop} (hgd : o.guard = none) (s x : Operand)
    (ho : o.op = .call { callee := .builtin .append, args := #[s, x], argTypes := #[30, 30] })
    (W w0 : World) (v : Value) (l : List UInt8) (hs : a.eval s = v) (hb : TQ W w0 v l) (b : UInt8) (c : Int) (hc : c = (b.toNat : Int))
    (hx : a.eval x = .slice (some ⟨w0.heap.size, 0, none⟩) 1 1) (hlen : l.length + 1 ≤ 140737488355328)
    (h : ∀ v' w', TQ W w' v' (l ++ [b]) → wpList Tryd.prog ops Q rest (a.put o.dst v') w') : wpList Tryd.prog ops Q (o :: rest) a (w0.alloc (.cells #[.int .u8 c] 5)) := by
  obtain ⟨wx, hO, hx1, hm⟩ := hb
  exact ob_byte hgd s x ho _ wx w0 v l hs hO b c hc hx hlen fun v' w' h' => h v' w' ⟨wx, h', hx1, hm⟩
theorem tq_text {ops : Array Oper} {rest : List Oper} {o : Oper} {a : Act} {Q : Exit → Act → World → Prop} {w : World} (hgd : o.guard = none) (sl x : Operand)
    (ho : o.op = .call { callee := .builtin .append, args := #[sl, x], argTypes := #[30, 9] })
    (W : World) (v : Value) (l : List UInt8) (hs : a.eval sl = v) (hb : TQ W w v l) (s : ByteArray) (hx : a.eval x = .string s) (hlen : l.length + s.size ≤ 140737488355328)
    (h : ∀ v' w', TQ W w' v' (l ++ s.data.toList) → wpList Tryd.prog ops Q rest (a.put o.dst v') w') : wpList Tryd.prog ops Q (o :: rest) a w := by
  obtain ⟨wx, hO, hx1, hm⟩ := hb
  exact ob_text hgd sl x ho _ wx v l hs hO s hx hlen fun v' w' h' => h v' w' ⟨wx, h', hx1, hm⟩
theorem tq_row {ops : Array Oper} {rest : List Oper} {o : Oper} {a : Act} {Q : Exit → Act → World → Prop} {w : World} (hgd : o.guard = none) (s x : Operand)
    (ho : o.op = .call { callee := .builtin .append, args := #[s, x], argTypes := #[30, 30] })
    (W : World) (v : Value) (l : List UInt8) (hs : a.eval s = v) (hb : TQ W w v l) (vx : Value) (p : List UInt8) (hx : a.eval x = vx) (B' : Nat) (hrow : Row B' .u8 w vx (p.map (·.toNat))) (hlen : l.length + p.length ≤ 140737488355328)
    (h : ∀ v' w', TQ W w' v' (l ++ p) → wpList Tryd.prog ops Q rest (a.put o.dst v') w') : wpList Tryd.prog ops Q (o :: rest) a w := by
  obtain ⟨wx, hO, hx1, hm⟩ := hb
  exact ob_row hgd s x ho _ wx v l hs hO vx p hx B' hrow hlen fun v' w' h' => h v' w' ⟨wx, h', hx1, hm⟩
theorem tq_string {W w : World} {v : Value} {l : List UInt8} (h : TQ W w v l) : (convert 30 9 v).run Tryd.prog w = .ok (.string ⟨l.toArray⟩) w := by
  obtain ⟨wx, hO, _, _⟩ := h
  exact ob_string hO
/-- 'make([]byte, 0, c)' behind the four cells. -/
theorem made_tq (W : World) (c : Nat) (hc : c ≤ 140737488355328) : ∃ w', (Instr.makeSlice 30 (.int .i64 0) (.int .i64 (c : Int))).run Tryd.prog (W.alloc (.cells #[.int .u8 0, .int .u8 0, .int .u8 0, .int .u8 0] 64)) = .ok (.slice (some ⟨W.heap.size + 1, 0, none⟩) 0 c) w' ∧ TQ W w' (.slice (some ⟨W.heap.size + 1, 0, none⟩) 0 c) [] := by
  obtain ⟨i, hi, hz, hsize, hby⟩ := info_parts info5
  obtain ⟨w', h1, h2, h3⟩ := run_make_own (P := Tryd.prog) (W.alloc (.cells #[.int .u8 0, .int .u8 0, .int .u8 0, .int .u8 0] 64)) (W.heap.size + 1) 30 5 i (.int .u8 0) 1 Tryd.underlying30 hi hz hsize .i64 .i64 c (by rw [hby]; omega) (by unfold maxLen; omega) (by simp)
  have hs : (W.alloc (.cells #[.int .u8 0, .int .u8 0, .int .u8 0, .int .u8 0] 64)).heap.size = W.heap.size + 1 := by simp
  rw [hs] at h1 h2
  refine ⟨w', h1, W.alloc (.cells #[.int .u8 0, .int .u8 0, .int .u8 0, .int .u8 0] 64), ⟨h2, ?_, ?_⟩, (Below.refl _ _).alloc (Nat.le_refl _) _, by simp, fun j hj => ?_⟩
  · exact (Below.refl _ _).grown h3 (by rw [hs]; exact Nat.le_refl _) (by intro k hk; cases hk)
  · have := h3.size; rw [hs] at this; exact this
  · match j, hj with
    | 0, _ => simp
    | 1, _ => simp
    | 2, _ => simp
    | 3, _ => simp
end Go.Proofs.YtbimbpplkhdeiaaDoor
