/- Written by wip/tools/port2.py out of the text Base of seat Ytidkdjnfpepnfaa. -/
/- Common words of this seat's walks: a slice of numbers in memory as a list; appends onto a new slice; small laws on worlds. -/
import Derived.Test.YtllgogkjcbdpkaaGreatDoorProg
import Derived.Test.YtllgogkjcbdpkaaGreatDoorZNum
import Derived.WalkKit
import Derived.WalkSpells
import Derived.WalkLawsBesides
import Derived.Deep.QuietTactic
import Derived.BigQuiet
import Derived.Lib.Hide
import Derived.Lib.SmallJoins
import Derived.Laws.AppendOwnNone
import Derived.Laws.CopyOwn
import Derived.Deep.DeepCutAuto
import Derived.Deep.RegionWith
import Derived.Deep.RegionHeld3
import Derived.Deep.AppendLies
namespace Go.Proofs.YtllgogkjcbdpkaaGreatDoor.Z
open Go.RowKit

/-- What the walk is told of a slice of integers that came in: nil, or a row of cells. -/
def IsRow (k : IntKind) (w : World) (a : Option Addr) (len cap : Nat) (zs : List Int) : Prop :=
  (a = none ∧ len = 0 ∧ cap = 0 ∧ zs = []) ∨
  ∃ x, a = some x ∧ len ≤ cap ∧ cap ≤ maxLen ∧ zs.length = cap ∧ (∀ i, i < zs.length → w.cell? (x.add i) = some (.int k (zs.getD i 0))) ∧ ∀ n ∈ zs, (Lit.int k n).wf = true

/-- The slice v holds just the numbers l; where it holds any, they lie in a block from B on. -/
def Row (B : Nat) (k : IntKind) (w : World) (v : Value) (l : List Nat) : Prop :=
  (l = [] ∧ (v = .slice none 0 0 ∨ ∃ a c, v = .slice (some a) 0 c)) ∨
  (0 < l.length ∧ ∃ g off c, v = .slice (some ⟨g, off, none⟩) l.length c ∧ l.length ≤ c ∧ B ≤ g ∧ g < w.heap.size ∧ ∀ i, i < l.length → w.cell? ⟨g, off + i, none⟩ = some (.int k ((l.getD i 0 : Nat) : Int)))

theorem ext_trans {a b c : World} (h1 : Below a.heap.size a b) (h2 : Below b.heap.size b c) : Below a.heap.size a c := h1.trans (h2.mono h1.size)
theorem below_drewN {B : Nat} {a w : World} (h : Below B a w) (n : Nat) : Below B a (w.drewN n) := ⟨h.os, h.tape, h.output, h.size, h.block⟩
theorem bcell {W w1 : World} (hb : Below W.heap.size W w1) : (∀ b o, b < W.heap.size → w1.cell? ⟨b, o, none⟩ = W.cell? ⟨b, o, none⟩) ∧ (∀ b o, b < W.heap.size → w1.frozen? ⟨b, o, none⟩ = W.frozen? ⟨b, o, none⟩) :=
  ⟨fun b o h => hb.cell (p := ⟨b, o, none⟩) h, fun b o h => hb.frozen (p := ⟨b, o, none⟩) h⟩
theorem quiet_left {P : Program} {f : FuncId} {args : Array Value} {w : World} {n : Nat} {v : Value}
    (h : Calls P f args (w.drewN n) fun e w' => e = .returned v ∧ w.drewN n = w') : Calls P f args (w.drewN n) fun e w'' => e = .returned v ∧ ∃ m, w'' = w.drewN m :=
  h.mono fun _ _ ⟨he, hm⟩ => ⟨he, n, hm.symm⟩
theorem ret_int {k : IntKind} {a b : Int} (h : a = b) : Ending.returned (.int k a) = .returned (.int k b) := by rw [h]
theorem ret_bool {a b : Bool} (h : a = b) : Ending.returned (.bool a) = .returned (.bool b) := by rw [h]

theorem Row.below {B' : Nat} {k : IntKind} {w w' : World} {v : Value} {l : List Nat} {B : Nat} (h : Row B' k w v l) (hb : Below B w w') (hB : w.heap.size ≤ B) : Row B' k w' v l := by
  rcases h with h | ⟨h0, g, off, c, hv, hc, hB', hg, hcell⟩
  · exact .inl h
  · exact .inr ⟨h0, g, off, c, hv, hc, hB', Nat.lt_of_lt_of_le hg hb.size, fun i hi => by rw [hb.cell (p := ⟨g, off + i, none⟩) (Nat.lt_of_lt_of_le hg hB)]; exact hcell i hi⟩
theorem Row.le {B' : Nat} {k : IntKind} {w : World} {v : Value} {l : List Nat} {B : Nat} (h : Row B k w v l) (hB : B' ≤ B) : Row B' k w v l := by
  rcases h with h | ⟨h0, g, off, c, hv, hc, hB', hg, hcell⟩
  · exact .inl h
  · exact .inr ⟨h0, g, off, c, hv, hc, Nat.le_trans hB hB', hg, hcell⟩
/-- Stores into blocks below B leave it. -/
theorem Row.setOld {k : IntKind} {w : World} {v : Value} {l : List Nat} {B : Nat} (h : Row B k w v l) {a : Addr} (ha : a.block < B) (u : Value) : Row B k (w.setCell a u) v l := by
  rcases h with h | ⟨h0, g, off, c, hv, hc, hB', hg, hcell⟩
  · exact .inl h
  · refine .inr ⟨h0, g, off, c, hv, hc, hB', by simpa [World.setCell] using hg, fun i hi => ?_⟩
    rw [World.cell?_of_block (w := w) (Below.heap_setCell w a u g (by omega))]
    exact hcell i hi
theorem Row.draws {B : Nat} {k : IntKind} {w : World} {v : Value} {l : List Nat} (h : Row B k w v l) (n : Nat) : Row B k (w.drewN n) v l := h
theorem Row.alloc {B : Nat} {k : IntKind} {w : World} {v : Value} {l : List Nat} (h : Row B k w v l) (o : Obj) : Row B k (w.alloc o) v l := h.below ((Below.refl _ _).alloc (Nat.le_refl _) o) (Nat.le_refl _)

/-- A row that the call owns, read. -/
theorem Row.ofOwn {k : IntKind} {w : World} {base : Nat} {e : TypeId} {v : Value} {n : Nat} {l : List Nat} (h : w.ownsRow base e 1 v n (l.map fun x => Value.int k (x : Nat))) : Row base k w v l := by
  have hl : l.length = n := by simpa using h.1
  rcases h.2 with ⟨rfl, h0⟩ | ⟨g, cap, cur, rfl, hb, hg, hn, hm, hc, ht⟩
  · exact .inl ⟨List.eq_nil_of_length_eq_zero (by omega), .inl rfl⟩
  · subst hl
    by_cases h0 : l.length = 0
    · obtain rfl : l = [] := List.eq_nil_of_length_eq_zero h0
      exact .inl ⟨rfl, .inr ⟨_, _, rfl⟩⟩
    · refine .inr ⟨by omega, g, 0, cap, rfl, hn, hb, (Array.getElem?_eq_some_iff.1 hg).1, fun i hi => ?_⟩
      have := h.cellAt i (by omega)
      rw [Nat.zero_add, this]
      simp [hi]
/-- An empty slice, or one with cells. -/
theorem Row.len {B : Nat} {k : IntKind} {w : World} {v : Value} {l : List Nat} (h : Row B k w v l) : ∃ a c, v = .slice a l.length c := by
  rcases h with ⟨rfl, rfl | ⟨a, c, rfl⟩⟩ | ⟨_, g, off, c, rfl, _⟩
  · exact ⟨_, _, rfl⟩
  · exact ⟨_, _, rfl⟩
  · exact ⟨_, _, rfl⟩

/-- 'append(new, src...)': new a slice of the call's own, src any row of numbers. -/
theorem wp_append_row {P : Program} {w : World} {o : Oper} {a : Act} {K : Act → World → Prop} {Q : Exit → Act → World → Prop} (s x : Operand) (t : TypeId)
    (ho : o.op = .call { callee := .builtin .append, args := #[s, x], argTypes := #[t, t] })
    (base : Nat) (e : TypeId) (i : TypeInfo) (z : Value) (bytes : Nat) (ht : P.underlying t = some (.slice e)) (hi : P.info? e = some i) (hz : i.zero = some z)
    (hsize : i.size = 1) (hby : i.bytes = bytes) (hzs : z.cells.size = 1)
    (v : Value) (n : Nat) (xs : List Value) (hs : a.eval s = v) (hown : w.ownsRow base e 1 v n xs)
    (k : IntKind) (vx : Value) (l : List Nat) (hx : a.eval x = vx) (B : Nat) (hrow : Row B k w vx l)
    (h63 : n + l.length ≤ maxLen) (hbytes : (n + l.length) * bytes ≤ 140737488355328) (hbase : base ≤ w.heap.size)
    (h : ∀ v' w', w'.ownsRow base e 1 v' (n + l.length) (xs ++ l.map fun x => Value.int k (x : Nat)) → w.grownBy w' v.ownBlock → K (a.put o.dst v') w') : o.wp P a w K Q := by
  rcases hrow with ⟨rfl, rfl | ⟨b, c, rfl⟩⟩ | ⟨h0, g, off, c, rfl, hc, _, hg, hcell⟩
  · have hrun := run_append_owned_none (P := P) (w := w) base t o.type e i 1 ht hi v n xs hown
    unfold Oper.wp
    simp [execOp, ho, resolve, invoke, builtin, hs, hx, hrun, Result.andThen]
    exact h v w (by simpa using hown) (World.grownBy.refl _ _)
  · refine wp_append_own w s x t ho base e i z 1 bytes ht hi hz hsize hby hzs (by decide) v n xs hs hown b 0 c [] hx rfl (by simp) (by simp) (by simpa using h63) (by simpa using hbytes) hbase ?_
    intro v' w' h1 h2 _
    exact h v' w' (by simpa using h1) h2
  · refine wp_append_own w s x t ho base e i z 1 bytes ht hi hz hsize hby hzs (by decide) v n xs hs hown ⟨g, off, none⟩ l.length c (l.map fun x => Value.int k (x : Nat)) hx (by simp) ?_ (by intro u hu; obtain ⟨y, _, rfl⟩ := List.mem_map.1 hu; rfl) h63 hbytes hbase ?_
    · intro j u hu
      have hj : j < l.length := by
        have := List.getElem?_eq_some_iff.1 hu
        simpa using this.1
      have := hcell j hj
      rw [show (⟨g, off, none⟩ : Addr).add j = ⟨g, off + j, none⟩ from by unfold Addr.add; split <;> simp_all, this]
      rw [List.getElem?_map, List.getElem?_eq_getElem hj] at hu
      simp [hj] at hu ⊢
      exact hu
    · intro v' w' h1 h2 _
      exact h v' w' h1 h2
theorem wpList_append_row {P : Program} {w : World} {ops : Array Oper} {rest : List Oper} {o : Oper} {a : Act} {Q : Exit → Act → World → Prop} (hgd : o.guard = none) (s x : Operand) (t : TypeId)
    (ho : o.op = .call { callee := .builtin .append, args := #[s, x], argTypes := #[t, t] })
    (base : Nat) (e : TypeId) (i : TypeInfo) (z : Value) (bytes : Nat) (ht : P.underlying t = some (.slice e)) (hi : P.info? e = some i) (hz : i.zero = some z)
    (hsize : i.size = 1) (hby : i.bytes = bytes) (hzs : z.cells.size = 1)
    (v : Value) (n : Nat) (xs : List Value) (hs : a.eval s = v) (hown : w.ownsRow base e 1 v n xs)
    (k : IntKind) (vx : Value) (l : List Nat) (hx : a.eval x = vx) (B : Nat) (hrow : Row B k w vx l)
    (h63 : n + l.length ≤ maxLen) (hbytes : (n + l.length) * bytes ≤ 140737488355328) (hbase : base ≤ w.heap.size)
    (h : ∀ v' w', w'.ownsRow base e 1 v' (n + l.length) (xs ++ l.map fun x => Value.int k (x : Nat)) → w.grownBy w' v.ownBlock → wpList P ops Q rest (a.put o.dst v') w') : wpList P ops Q (o :: rest) a w :=
  wpList_plain hgd fun _ hK => wp_append_row s x t ho base e i z bytes ht hi hz hsize hby hzs v n xs hs hown k vx l hx B hrow h63 hbytes hbase fun v' w' h1 h2 => hK _ _ (h v' w' h1 h2)
theorem step_append_row {P : Program} {w : World} {ops : Array Oper} {o : Oper} {a : Act} {K : Act → World → Prop} {Q : Exit → Act → World → Prop} {E : Prop} (hgd : o.guard = none) (s x : Operand) (t : TypeId)
    (ho : o.op = .call { callee := .builtin .append, args := #[s, x], argTypes := #[t, t] })
    (base : Nat) (e : TypeId) (i : TypeInfo) (z : Value) (bytes : Nat) (ht : P.underlying t = some (.slice e)) (hi : P.info? e = some i) (hz : i.zero = some z)
    (hsize : i.size = 1) (hby : i.bytes = bytes) (hzs : z.cells.size = 1)
    (v : Value) (n : Nat) (xs : List Value) (hs : a.eval s = v) (hown : w.ownsRow base e 1 v n xs)
    (k : IntKind) (vx : Value) (l : List Nat) (hx : a.eval x = vx) (B : Nat) (hrow : Row B k w vx l)
    (h63 : n + l.length ≤ maxLen) (hbytes : (n + l.length) * bytes ≤ 140737488355328) (hbase : base ≤ w.heap.size)
    (h : ∀ v' w', w'.ownsRow base e 1 v' (n + l.length) (xs ++ l.map fun x => Value.int k (x : Nat)) → w.grownBy w' v.ownBlock → K (a.put o.dst v') w') : if Region.wanted o (yielded ops a.tmps) = true then Oper.wp P o a w K Q else E := by
  have hw : Region.wanted o (yielded ops a.tmps) = true := by simp [Region.wanted, hgd]
  rw [if_pos hw]
  exact wp_append_row s x t ho base e i z bytes ht hi hz hsize hby hzs v n xs hs hown k vx l hx B hrow h63 hbytes hbase h

/-- 'append([]T{}, src...)': a new row of the same numbers. -/
theorem wp_append_new {P : Program} {w : World} {o : Oper} {a : Act} {K : Act → World → Prop} {Q : Exit → Act → World → Prop} (s x : Operand) (t : TypeId)
    (ho : o.op = .call { callee := .builtin .append, args := #[s, x], argTypes := #[t, t] })
    (e : TypeId) (i : TypeInfo) (z : Value) (bytes : Nat) (ht : P.underlying t = some (.slice e)) (hi : P.info? e = some i) (hz : i.zero = some z)
    (hsize : i.size = 1) (hby : i.bytes = bytes) (hzs : z.cells.size = 1) (hb8 : bytes ≤ 8)
    (g : Nat) (hs : a.eval s = .slice (some ⟨g, 0, none⟩) 0 0) (hg : w.heap[g]? = some (.cells #[] e (0, 0)))
    (k : IntKind) (vx : Value) (l : List Nat) (hx : a.eval x = vx) (B : Nat) (hrow : Row B k w vx l) (hl : l.length ≤ 2147483647)
    (h : ∀ a' c' w', Row g k w' (.slice a' l.length c') l → w.grownBy w' (some g) → K (a.put o.dst (.slice a' l.length c')) w') : o.wp P a w K Q := by
  have hlt : g < w.heap.size := (Array.getElem?_eq_some_iff.1 hg).1
  have hown : w.ownsRow g e 1 (.slice (some ⟨g, 0, none⟩) 0 0) 0 [] := ⟨by simp, .inr ⟨g, 0, #[], rfl, Nat.le_refl _, hg, Nat.le_refl _, by decide, rfl, by simp⟩⟩
  refine wp_append_row s x t ho g e i z bytes ht hi hz hsize hby hzs _ 0 [] hs hown k vx l hx B hrow (by simp [maxLen]; omega) ?_ (by omega) ?_
  · rw [Nat.zero_add]
    exact Nat.le_trans (Nat.mul_le_mul hl hb8) (by decide)
  · intro v' w' h1 h2
    have hr : Row g k w' v' l := Row.ofOwn h1
    obtain ⟨a', c', rfl⟩ := hr.len
    exact h a' c' w' hr h2
theorem wpList_append_new {P : Program} {w : World} {ops : Array Oper} {rest : List Oper} {o : Oper} {a : Act} {Q : Exit → Act → World → Prop} (hgd : o.guard = none) (s x : Operand) (t : TypeId)
    (ho : o.op = .call { callee := .builtin .append, args := #[s, x], argTypes := #[t, t] })
    (e : TypeId) (i : TypeInfo) (z : Value) (bytes : Nat) (ht : P.underlying t = some (.slice e)) (hi : P.info? e = some i) (hz : i.zero = some z)
    (hsize : i.size = 1) (hby : i.bytes = bytes) (hzs : z.cells.size = 1) (hb8 : bytes ≤ 8)
    (g : Nat) (hs : a.eval s = .slice (some ⟨g, 0, none⟩) 0 0) (hg : w.heap[g]? = some (.cells #[] e (0, 0)))
    (k : IntKind) (vx : Value) (l : List Nat) (hx : a.eval x = vx) (B : Nat) (hrow : Row B k w vx l) (hl : l.length ≤ 2147483647)
    (h : ∀ a' c' w', Row g k w' (.slice a' l.length c') l → w.grownBy w' (some g) → wpList P ops Q rest (a.put o.dst (.slice a' l.length c')) w') : wpList P ops Q (o :: rest) a w :=
  wpList_plain hgd fun _ hK => wp_append_new s x t ho e i z bytes ht hi hz hsize hby hzs hb8 g hs hg k vx l hx B hrow hl fun a' c' w' h1 h2 => hK _ _ (h a' c' w' h1 h2)
theorem step_append_new {P : Program} {w : World} {ops : Array Oper} {o : Oper} {a : Act} {K : Act → World → Prop} {Q : Exit → Act → World → Prop} {E : Prop} (hgd : o.guard = none) (s x : Operand) (t : TypeId)
    (ho : o.op = .call { callee := .builtin .append, args := #[s, x], argTypes := #[t, t] })
    (e : TypeId) (i : TypeInfo) (z : Value) (bytes : Nat) (ht : P.underlying t = some (.slice e)) (hi : P.info? e = some i) (hz : i.zero = some z)
    (hsize : i.size = 1) (hby : i.bytes = bytes) (hzs : z.cells.size = 1) (hb8 : bytes ≤ 8)
    (g : Nat) (hs : a.eval s = .slice (some ⟨g, 0, none⟩) 0 0) (hg : w.heap[g]? = some (.cells #[] e (0, 0)))
    (k : IntKind) (vx : Value) (l : List Nat) (hx : a.eval x = vx) (B : Nat) (hrow : Row B k w vx l) (hl : l.length ≤ 2147483647)
    (h : ∀ a' c' w', Row g k w' (.slice a' l.length c') l → w.grownBy w' (some g) → K (a.put o.dst (.slice a' l.length c')) w') : if Region.wanted o (yielded ops a.tmps) = true then Oper.wp P o a w K Q else E := by
  have hw : Region.wanted o (yielded ops a.tmps) = true := by simp [Region.wanted, hgd]
  rw [if_pos hw]
  exact wp_append_new s x t ho e i z bytes ht hi hz hsize hby hzs hb8 g hs hg k vx l hx B hrow hl h
theorem grown_cell {w2 w3 : World} {o : Obj} (hg : (w2.alloc o).grownBy w3 (some w2.heap.size)) {a : Addr} {v : Value} (h : w2.cell? a = some v) : w3.cell? a = some v := by
  have hlt := World.block_lt_of_cell? w2 _ h
  rw [hg.cell_far _ (by simp; omega) (by simp; omega)]
  exact (((Below.refl _ _).alloc (Nat.le_refl _) o).cell hlt).trans h
theorem grown_cellX {w2 w3 X : World} (o : Obj) (hg : X.grownBy w3 (some w2.heap.size)) (hX : X.heap = (w2.alloc o).heap) {a : Addr} {v : Value} (h : w2.cell? a = some v) : w3.cell? a = some v := by
  have hlt := World.block_lt_of_cell? w2 _ h
  have hs : X.heap.size = w2.heap.size + 1 := by rw [hX]; simp
  rw [hg.cell_far _ (by omega) (by simp; omega)]
  exact (World.cell?_of_block (w := w2) (by rw [hX]; exact Below.heap_alloc w2 o _ hlt)).trans h
theorem grown_belowX {w2 w3 X : World} (o : Obj) (hg : X.grownBy w3 (some w2.heap.size)) (hX : X.heap = (w2.alloc o).heap) (h1 : X.os = w2.os) (h2 : X.tape = w2.tape) (h3 : X.output = w2.output) : Below w2.heap.size w2 w3 := by
  have hs : X.heap.size = w2.heap.size + 1 := by rw [hX]; simp
  refine ⟨hg.os.trans h1, hg.tape.trans h2, hg.output.trans h3, by have := hg.size; omega, fun k hk => ?_⟩
  rw [hg.block k (by omega) (by simp; omega), hX]
  exact Below.heap_alloc w2 o k hk
theorem grown_below {w2 w3 : World} {o : Obj} (hg : (w2.alloc o).grownBy w3 (some w2.heap.size)) : Below w2.heap.size w2 w3 :=
  ((Below.refl _ _).alloc (Nat.le_refl _) o).grown hg (by simp) (by intro k hk; cases hk; exact Nat.le_refl _)

/-- What makes a new row of numbers leaves. -/
def MakesRow (k : IntKind) (l : List Nat) (w : World) (e : Ending) (w' : World) : Prop := ∃ v, e = .returned v ∧ Row w.heap.size k w' v l ∧ Below w.heap.size w w'

/-- The reference's integer z in memory, of at most n bytes, which lie in a block from B on. -/
def SInt (B n : Nat) (w : World) (v : Value) (z : Int) : Prop := ∃ sl l, v = .agg #[.bool (decide (z < 0)), sl] ∧ Row B .u8 w sl l ∧ IsB z.natAbs l ∧ l.length ≤ n
/-- The integer z as a value of the thin package. -/
def VInt (B n : Nat) (w : World) (v : Value) (z : Int) : Prop := ∃ sl l, v = .agg #[.int .i64 2, .bool (decide (z < 0)), sl, .int .u64 0, .string ⟨#[]⟩, .slice none 0 0] ∧ Row B .u8 w sl l ∧ IsB z.natAbs l ∧ l.length ≤ n
theorem SInt.below {B' n : Nat} {w w' : World} {v : Value} {z : Int} {B : Nat} (h : SInt B' n w v z) (hb : Below B w w') (hB : w.heap.size ≤ B) : SInt B' n w' v z := by
  obtain ⟨sl, l, h1, h2, h3⟩ := h
  exact ⟨sl, l, h1, h2.below hb hB, h3⟩
theorem VInt.below {B' n : Nat} {w w' : World} {v : Value} {z : Int} {B : Nat} (h : VInt B' n w v z) (hb : Below B w w') (hB : w.heap.size ≤ B) : VInt B' n w' v z := by
  obtain ⟨sl, l, h1, h2, h3⟩ := h
  exact ⟨sl, l, h1, h2.below hb hB, h3⟩
theorem SInt.le {B' n : Nat} {w : World} {v : Value} {z : Int} {B m : Nat} (h : SInt B n w v z) (hB : B' ≤ B) (hm : n ≤ m) : SInt B' m w v z := by
  obtain ⟨sl, l, h1, h2, h3, h4⟩ := h
  exact ⟨sl, l, h1, h2.le hB, h3, Nat.le_trans h4 hm⟩
theorem VInt.le {B' n : Nat} {w : World} {v : Value} {z : Int} {B m : Nat} (h : VInt B n w v z) (hB : B' ≤ B) (hm : n ≤ m) : VInt B' m w v z := by
  obtain ⟨sl, l, h1, h2, h3, h4⟩ := h
  exact ⟨sl, l, h1, h2.le hB, h3, Nat.le_trans h4 hm⟩
theorem SInt.setOld {B n : Nat} {w : World} {v : Value} {z : Int} (h : SInt B n w v z) {a : Addr} (ha : a.block < B) (u : Value) : SInt B n (w.setCell a u) v z := by
  obtain ⟨sl, l, h1, h2, h3⟩ := h
  exact ⟨sl, l, h1, h2.setOld ha u, h3⟩
theorem VInt.setOld {B n : Nat} {w : World} {v : Value} {z : Int} (h : VInt B n w v z) {a : Addr} (ha : a.block < B) (u : Value) : VInt B n (w.setCell a u) v z := by
  obtain ⟨sl, l, h1, h2, h3⟩ := h
  exact ⟨sl, l, h1, h2.setOld ha u, h3⟩
def MakesS (n : Nat) (z : Int) (w : World) (e : Ending) (w' : World) : Prop := ∃ v, e = .returned v ∧ SInt w.heap.size n w' v z ∧ Below w.heap.size w w'
def MakesV (n : Nat) (z : Int) (w : World) (e : Ending) (w' : World) : Prop := ∃ v, e = .returned v ∧ VInt w.heap.size n w' v z ∧ Below w.heap.size w w'

/-- A sign and a magnitude. -/
def signed (neg : Bool) (m : Nat) : Int := if neg then -(m : Int) else m
theorem signed_neg (neg : Bool) (m : Nat) : decide (signed neg m < 0) = (neg && decide (0 < m)) := by
  cases neg <;> simp [signed]
theorem signed_abs (neg : Bool) (m : Nat) : (signed neg m).natAbs = m := by
  cases neg <;> simp [signed]

theorem info5 : (Tryz.prog.info? 5).map (fun i => (i.zero, i.size, i.bytes)) = some (some (.int .u8 0), 1, 1) := by kernel_rfl
theorem info85 : (Tryz.prog.info? 85).map (fun i => (i.zero, i.size, i.bytes)) = some (some (.int .u64 0), 1, 8) := by kernel_rfl

end Go.Proofs.YtllgogkjcbdpkaaGreatDoor.Z
