/- Scalars as the reference's values and as the package's: what is said of memory. -/
import Derived.Test.YtllgogkjcbdpkaaGreatZV3
import Derived.Test.YtllgogkjcbdpkaaGreatGen
import Derived.Deep.RegionHeld3
namespace Go.Proofs.YtllgogkjcbdpkaaGreat
open Go.RowKit
open Z (Row VInt KInt BInt IsB IsW smallB)

/-- A value without parts. -/
inductive Sc where
  | none
  | bool (b : Bool)
  | int (z : Int)
  | float (n : Nat)
  | str (t : ByteArray)
  | bytes (t : ByteArray)

/-- Blocks that are as they were. -/
def Same (ok : Nat → Prop) (w w' : World) : Prop := w.heap.size ≤ w'.heap.size ∧ ∀ k, ok k → k < w.heap.size → w'.heap[k]? = w.heap[k]?
theorem Same.refl (ok : Nat → Prop) (w : World) : Same ok w w := ⟨Nat.le_refl _, fun _ _ _ => rfl⟩
theorem Same.trans {ok : Nat → Prop} {a b c : World} (h1 : Same ok a b) (h2 : Same ok b c) : Same ok a c :=
  ⟨Nat.le_trans h1.1 h2.1, fun k hk hl => (h2.2 k hk (Nat.lt_of_lt_of_le hl h1.1)).trans (h1.2 k hk hl)⟩
theorem Same.mono {ok ok' : Nat → Prop} {a b : World} (h : Same ok a b) (hs : ∀ k, ok' k → ok k) : Same ok' a b := ⟨h.1, fun k hk hl => h.2 k (hs k hk) hl⟩
theorem Same.below {ok : Nat → Prop} {w w' : World} (h : Below w.heap.size w w') : Same ok w w' := ⟨h.size, fun k _ hl => h.block k hl⟩
theorem Same.grown {ok : Nat → Prop} {w w' : World} {r : Option Nat} (h : w.grownBy w' r) (hr : ∀ k, r = some k → ¬ ok k) : Same ok w w' := ⟨h.size, fun k hk hl => h.block k hl (fun e => hr k e.symm hk)⟩
theorem Same.alloc (ok : Nat → Prop) (w : World) (o : Obj) : Same ok w (w.alloc o) := .below ((Below.refl _ _).alloc (Nat.le_refl _) _)
theorem Same.set {ok : Nat → Prop} (w : World) (a : Addr) (u : Value) (h : ¬ ok a.block) : Same ok w (w.setCell a u) :=
  ⟨by simp, fun k hk _ => Below.heap_setCell w a u k (fun e => h (e ▸ hk))⟩

/-- A row of numbers whose block, if it has one, is one of these. -/
def RowP (ok : Nat → Prop) (k : IntKind) (w : World) (v : Value) (l : List Nat) : Prop :=
  (l = [] ∧ (v = .slice none 0 0 ∨ ∃ a c, v = .slice (some a) 0 c)) ∨
  (0 < l.length ∧ ∃ g off c, v = .slice (some ⟨g, off, none⟩) l.length c ∧ l.length ≤ c ∧ ok g ∧ g < w.heap.size ∧ ∀ i, i < l.length → w.cell? ⟨g, off + i, none⟩ = some (.int k ((l.getD i 0 : Nat) : Int)))
theorem RowP.of {B : Nat} {k : IntKind} {w : World} {v : Value} {l : List Nat} (h : Row B k w v l) : RowP (fun b => B ≤ b ∧ b < w.heap.size) k w v l := by
  rcases h with h | ⟨h0, g, off, c, hv, hc, hB, hg, hcell⟩
  · exact .inl h
  · exact .inr ⟨h0, g, off, c, hv, hc, ⟨hB, hg⟩, hg, hcell⟩
theorem RowP.row {ok : Nat → Prop} {k : IntKind} {w : World} {v : Value} {l : List Nat} (h : RowP ok k w v l) : Row 0 k w v l := by
  rcases h with h | ⟨h0, g, off, c, hv, hc, _, hg, hcell⟩
  · exact .inl h
  · exact .inr ⟨h0, g, off, c, hv, hc, Nat.zero_le _, hg, hcell⟩
theorem RowP.mono {ok ok' : Nat → Prop} {k : IntKind} {w : World} {v : Value} {l : List Nat} (h : RowP ok k w v l) (hs : ∀ b, ok b → ok' b) : RowP ok' k w v l := by
  rcases h with h | ⟨h0, g, off, c, hv, hc, ho, hg, hcell⟩
  · exact .inl h
  · exact .inr ⟨h0, g, off, c, hv, hc, hs g ho, hg, hcell⟩
theorem RowP.same {ok : Nat → Prop} {k : IntKind} {w w' : World} {v : Value} {l : List Nat} (h : RowP ok k w v l) (hs : Same ok w w') : RowP ok k w' v l := by
  rcases h with h | ⟨h0, g, off, c, hv, hc, ho, hg, hcell⟩
  · exact .inl h
  · refine .inr ⟨h0, g, off, c, hv, hc, ho, Nat.lt_of_lt_of_le hg hs.1, fun i hi => ?_⟩
    rw [World.cell?_of_block (w := w) (hs.2 g ho hg)]
    exact hcell i hi

/-- A value of the thin package without parts. -/
def valOf (k : Int) (bits : Nat) (t : ByteArray) : Value := .agg #[.int .i64 k, .bool false, .slice none 0 0, .int .u64 bits, .string t, .slice none 0 0]
def VIntP (ok : Nat → Prop) (w : World) (v : Value) (z : Int) : Prop := ∃ sl l, v = .agg #[.int .i64 2, .bool (decide (z < 0)), sl, .int .u64 0, .string ⟨#[]⟩, .slice none 0 0] ∧ RowP ok .u8 w sl l ∧ IsB z.natAbs l ∧ l.length ≤ 4000
/-- A value of the thin package, in memory: its bytes, if it has some, lie in one of these blocks. -/
def VP (ok : Nat → Prop) (w : World) (v : Value) : Sc → Prop
  | .none => v = valOf 0 0 ⟨#[]⟩
  | .bool b => v = valOf 1 (if b then 1 else 0) ⟨#[]⟩
  | .int z => VIntP ok w v z
  | .float n => v = valOf 3 n ⟨#[]⟩ ∧ n < 18446744073709551616
  | .str t => v = valOf 4 0 t
  | .bytes t => v = valOf 5 0 t
theorem VP.mono {ok ok' : Nat → Prop} {w : World} {v : Value} {s : Sc} (h : VP ok w v s) (hs : ∀ b, ok b → ok' b) : VP ok' w v s := by
  cases s <;> first | exact h | skip
  obtain ⟨sl, l, h1, h2, h3⟩ := h
  exact ⟨sl, l, h1, h2.mono hs, h3⟩
theorem VP.same {ok : Nat → Prop} {w w' : World} {v : Value} {s : Sc} (h : VP ok w v s) (hs : Same ok w w') : VP ok w' v s := by
  cases s <;> first | exact h | skip
  obtain ⟨sl, l, h1, h2, h3⟩ := h
  exact ⟨sl, l, h1, h2.same hs, h3⟩
theorem VP.ofInt {B n : Nat} {w : World} {v : Value} {z : Int} (h : VInt B n w v z) (hn : n ≤ 4000) : VP (fun b => B ≤ b ∧ b < w.heap.size) w v (.int z) := by
  obtain ⟨sl, l, h1, h2, h3, h4⟩ := h
  exact ⟨sl, l, h1, .of h2, h3, Nat.le_trans h4 hn⟩
theorem VP.int {ok : Nat → Prop} {w : World} {v : Value} {z : Int} (h : VP ok w v (.int z)) : VInt 0 4000 w v z := by
  obtain ⟨sl, l, h1, h2, h3, h4⟩ := h
  exact ⟨sl, l, h1, h2.row, h3, h4⟩

/-- An integer of the package, its blocks among these. -/
def KIntP (ok : Nat → Prop) (w : World) (v : Value) (z : Int) : Prop :=
  (smallB z = true ∧ v = .agg #[.int .i64 z, .pointer none]) ∨
  (smallB z = false ∧ ∃ g sl xs, v = .agg #[.int .i64 0, .pointer (some ⟨g, 0, none⟩)] ∧ ok g ∧ w.heap[g]? = some (.cells #[.bool (decide (z < 0)), sl] 104 (0, 0)) ∧ RowP ok .u64 w sl xs ∧ IsW z.natAbs xs ∧ xs.length ≤ 1000)
theorem KIntP.mono {ok ok' : Nat → Prop} {w : World} {v : Value} {z : Int} (h : KIntP ok w v z) (hs : ∀ b, ok b → ok' b) : KIntP ok' w v z := by
  rcases h with h | ⟨h, g, sl, xs, h1, h2, h3, h4, h5⟩
  · exact .inl h
  · exact .inr ⟨h, g, sl, xs, h1, hs g h2, h3, h4.mono hs, h5⟩
theorem KIntP.same {ok : Nat → Prop} {w w' : World} {v : Value} {z : Int} (h : KIntP ok w v z) (hs : Same ok w w') : KIntP ok w' v z := by
  rcases h with h | ⟨h, g, sl, xs, h1, h2, h3, h4, h5⟩
  · exact .inl h
  · exact .inr ⟨h, g, sl, xs, h1, h2, (hs.2 g h2 (Array.getElem?_eq_some_iff.1 h3).1).trans h3, h4.same hs, h5⟩
theorem KIntP.of {B : Nat} {w : World} {v : Value} {z : Int} (h : KInt B w v z) : KIntP (fun b => B ≤ b ∧ b < w.heap.size) w v z := by
  rcases h with h | ⟨h, g, sl, xs, h1, h2, h3⟩
  · exact .inl h
  · exact .inr ⟨h, g, sl, xs, h1, ⟨h2, h3.lt⟩, h3.blk, .of h3.row, h3.num, h3.len⟩
theorem KIntP.k {ok : Nat → Prop} {w : World} {v : Value} {z : Int} (h : KIntP ok w v z) : KInt 0 w v z := by
  rcases h with h | ⟨h, g, sl, xs, h1, h2, h3, h4, h5, h6⟩
  · exact .inl h
  · exact .inr ⟨h, g, sl, xs, h1, Nat.zero_le _, ⟨h3, h4.row, h5, h6⟩⟩
/-- An integer of so many bytes at most. -/
def Short (z : Int) : Prop := ∃ l, IsB z.natAbs l ∧ l.length ≤ 4000
/-- A value of the package without parts. -/
def KP (ok : Nat → Prop) (w : World) (v : Value) : Sc → Prop
  | .none => v = .iface 70 (.int .u8 0)
  | .bool b => v = .iface 71 (.bool b)
  | .int z => ∃ u, v = .iface 76 u ∧ KIntP ok w u z ∧ Short z
  | .float n => v = .iface 78 (.float .f64 n) ∧ n < 18446744073709551616
  | .str t => v = .iface 80 (.string t)
  | .bytes t => v = .iface 81 (.string t)
theorem KP.mono {ok ok' : Nat → Prop} {w : World} {v : Value} {s : Sc} (h : KP ok w v s) (hs : ∀ b, ok b → ok' b) : KP ok' w v s := by
  cases s <;> first | exact h | skip
  obtain ⟨u, h1, h2, h3⟩ := h
  exact ⟨u, h1, h2.mono hs, h3⟩
theorem KP.same {ok : Nat → Prop} {w w' : World} {v : Value} {s : Sc} (h : KP ok w v s) (hs : Same ok w w') : KP ok w' v s := by
  cases s <;> first | exact h | skip
  obtain ⟨u, h1, h2, h3⟩ := h
  exact ⟨u, h1, h2.same hs, h3⟩
/-- A value and what it stands for. -/
abbrev Ps := List (Value × Sc)
def flat (ps : Ps) : List Value := ps.flatMap fun p => p.1.cells.toList
theorem flat_snoc (ps : Ps) (p : Value × Sc) : flat (ps ++ [p]) = flat ps ++ p.1.cells.toList := by simp [flat]
def kindOf : Sc → Int
  | .none => 0
  | .bool _ => 1
  | .int _ => 2
  | .float _ => 3
  | .str _ => 4
  | .bytes _ => 5
abbrev Pred := (Nat → Prop) → World → Value → Sc → Prop
structure Good (P : Pred) : Prop where
  mono : ∀ {ok ok' : Nat → Prop} {w : World} {v : Value} {s : Sc}, P ok w v s → (∀ b, ok b → ok' b) → P ok' w v s
  same : ∀ {ok : Nat → Prop} {w w' : World} {v : Value} {s : Sc}, P ok w v s → Same ok w w' → P ok w' v s
theorem goodV : Good VP := ⟨fun h hs => h.mono hs, fun h hs => h.same hs⟩
theorem goodK : Good KP := ⟨fun h hs => h.mono hs, fun h hs => h.same hs⟩
/-- A list of values, of the call's own; what they refer to lies in the blocks 'ok', the list itself in another one. -/
def GL (P : Pred) (e : TypeId) (z : Nat) (B : Nat) (ok : Nat → Prop) (w : World) (v : Value) (ps : Ps) : Prop :=
  w.ownsRow B e z v ps.length (flat ps) ∧ (∀ g, v.ownBlock = some g → ¬ ok g) ∧ (∀ b, ok b → b < w.heap.size) ∧ ∀ p ∈ ps, P ok w p.1 p.2
theorem GL.nil (P : Pred) (e : TypeId) (z : Nat) (B : Nat) (w : World) : GL P e z B (fun _ => False) w (.slice none 0 0) [] :=
  ⟨by simpa [flat] using World.ownsRow_nil w B e z, fun g h => (by cases h), fun b h => False.elim h, fun p hp => (by cases hp)⟩
theorem GL.below {P : Pred} (G : Good P) {e : TypeId} {z B : Nat} {ok : Nat → Prop} {w w' : World} {v : Value} {ps : Ps} (h : GL P e z B ok w v ps) (hb : Below w.heap.size w w') : GL P e z B ok w' v ps :=
  ⟨own_below h.1 hb, h.2.1, fun b hk => Nat.lt_of_lt_of_le (h.2.2.1 b hk) hb.size, fun p hp => G.same (h.2.2.2 p hp) (.below hb)⟩
theorem GL.le {P : Pred} {e : TypeId} {z B B' : Nat} {ok : Nat → Prop} {w : World} {v : Value} {ps : Ps} (h : GL P e z B ok w v ps) (hB : B' ≤ B) : GL P e z B' ok w v ps := ⟨own_le h.1 hB, h.2⟩
/-- One more: a new value (its blocks are those from w to w1), then append, in whose world X the new blocks stand as in w1. -/
theorem GL.snoc {P : Pred} (G : Good P) {e : TypeId} {z B : Nat} {ok : Nat → Prop} {w w1 X w2 : World} {v v' u : Value} {s : Sc} {ps : Ps} (h : GL P e z B ok w v ps) (hb : Below w.heap.size w w1) (hX : Below w1.heap.size w1 X)
    (hu : P (fun b => w.heap.size ≤ b ∧ b < w1.heap.size) w1 u s) (ho : w2.ownsRow B e z v' (ps.length + 1) (flat ps ++ u.cells.toList)) (hg : X.grownBy w2 v.ownBlock) (hv : BlockOf X v v') :
    GL P e z B (fun b => ok b ∨ (w.heap.size ≤ b ∧ b < w1.heap.size)) w2 v' (ps ++ [(u, s)]) := by
  have hlt : ∀ g, v.ownBlock = some g → g < w.heap.size := fun g hg => (h.1.lt g hg).2
  have s1 : Same ok w w2 := ((Same.below hb).trans (Same.below hX)).trans (.grown hg fun k hk => h.2.1 k hk)
  have s2 : Same (fun b => w.heap.size ≤ b ∧ b < w1.heap.size) w1 w2 := (Same.below hX).trans (.grown hg fun k hk hc => by have := hlt k hk; omega)
  refine ⟨by rw [flat_snoc]; simpa using ho, ?_, ?_, ?_⟩
  · intro g hg2
    rcases hv with hv | ⟨g', hv, hge⟩
    · rw [hv] at hg2
      rintro (hk | hk)
      · exact h.2.1 g hg2 hk
      · have := hlt g hg2; omega
    · rw [hv] at hg2
      cases hg2
      rintro (hk | hk)
      · have := h.2.2.1 g hk; have := hb.size; have := hX.size; omega
      · have := hX.size; omega
  · rintro b (hk | hk)
    · exact Nat.lt_of_lt_of_le (h.2.2.1 b hk) s1.1
    · exact Nat.lt_of_lt_of_le hk.2 s2.1
  · intro p hp
    rcases List.mem_append.1 hp with hp | hp
    · exact G.mono (G.same (h.2.2.2 p hp) s1) fun b hb => .inl hb
    · obtain rfl := List.mem_singleton.1 hp
      exact G.mono (G.same hu s2) fun b hb => .inr hb
abbrev VL := GL VP 31 6
abbrev KL := GL KP 41 1
theorem VP.cells6 {ok : Nat → Prop} {w : World} {v : Value} {s : Sc} (h : VP ok w v s) : ∃ (d : Bool) (a : Option Addr) (n c : Nat) (q : Int) (t : ByteArray), v = .agg #[.int .i64 (kindOf s), .bool d, .slice a n c, .int .u64 q, .string t, .slice none 0 0] ∧
    v.cells.toList = [.int .i64 (kindOf s), .bool d, .slice a n c, .int .u64 q, .string t, .slice none 0 0] ∧ ∀ u ∈ v.cells.toList, u.oneCell' = true := by
  have key : ∃ (d : Bool) (a : Option Addr) (n c : Nat) (q : Int) (t : ByteArray), v = .agg #[.int .i64 (kindOf s), .bool d, .slice a n c, .int .u64 q, .string t, .slice none 0 0] := by
    cases s with
    | int z =>
      obtain ⟨sl, l, rfl, h2, _⟩ := h
      obtain ⟨a, c, rfl⟩ := h2.row.len
      exact ⟨_, _, _, _, _, _, rfl⟩
    | float n =>
      obtain ⟨rfl, _⟩ := h
      exact ⟨_, _, _, _, _, _, rfl⟩
    | none => obtain rfl := h; exact ⟨_, _, _, _, _, _, rfl⟩
    | bool b => obtain rfl := h; exact ⟨_, _, _, _, _, _, rfl⟩
    | str t => obtain rfl := h; exact ⟨_, _, _, _, _, _, rfl⟩
    | bytes t => obtain rfl := h; exact ⟨_, _, _, _, _, _, rfl⟩
  obtain ⟨d, a, n, c, q, t, rfl⟩ := key
  refine ⟨d, a, n, c, q, t, rfl, rfl, fun u hu => ?_⟩
  simp [Value.cells] at hu
  rcases hu with rfl | rfl | rfl | rfl | rfl | rfl <;> rfl
theorem flat_at : ∀ (ps : Ps), (∀ p ∈ ps, p.1.cells.toList.length = 6) → ∀ (k j : Nat), j < 6 → (hk : k < ps.length) → (flat ps)[k * 6 + j]? = (ps[k]).1.cells.toList[j]?
  | [], _, k, j, _, hk => by simp at hk
  | p :: r, h, 0, j, hj, _ => by
    have h6 := h p (by simp)
    simp only [flat, List.flatMap_cons, Nat.zero_mul, Nat.zero_add, List.getElem_cons_zero]
    rw [List.getElem?_append_left (by omega)]
  | p :: r, h, k + 1, j, hj, hk => by
    have h6 := h p (by simp)
    simp only [flat, List.flatMap_cons, List.getElem_cons_succ]
    rw [List.getElem?_append_right (by omega), show (k + 1) * 6 + j - p.1.cells.toList.length = k * 6 + j by omega]
    exact flat_at r (fun q hq => h q (by simp [hq])) k j hj (by simpa using hk)
theorem flat_at1 : ∀ (ps : Ps), (∀ p ∈ ps, p.1.cells.toList = [p.1]) → ∀ (k : Nat), (hk : k < ps.length) → (flat ps)[k]? = some (ps[k]).1
  | [], _, k, hk => by simp at hk
  | p :: r, h, 0, _ => by simp [flat, h p (by simp)]
  | p :: r, h, k + 1, hk => by
    have h1 := h p (by simp)
    simp only [flat, List.flatMap_cons, List.getElem_cons_succ, h1, List.singleton_append, List.getElem?_cons_succ]
    exact flat_at1 r (fun q hq => h q (by simp [hq])) k (by simpa using hk)
/-- The k-th value of a list, cell by cell. -/
theorem VL.at {B : Nat} {ok : Nat → Prop} {w : World} {g n c : Nat} {ps : Ps} (h : VL B ok w (.slice (some ⟨g, 0, none⟩) n c) ps) (k : Nat) (hk : k < ps.length) :
    ∃ (d : Bool) (sa : Option Addr) (sn sc : Nat) (q : Int) (t : ByteArray), (ps[k]).1 = .agg #[.int .i64 (kindOf (ps[k]).2), .bool d, .slice sa sn sc, .int .u64 q, .string t, .slice none 0 0] ∧ VP ok w (ps[k]).1 (ps[k]).2 ∧
      w.cell? ⟨g, k * 6, none⟩ = some (.int .i64 (kindOf (ps[k]).2)) ∧ w.cell? ⟨g, k * 6 + 1, none⟩ = some (.bool d) ∧ w.cell? ⟨g, k * 6 + 2, none⟩ = some (.slice sa sn sc) ∧ w.cell? ⟨g, k * 6 + 3, none⟩ = some (.int .u64 q) ∧ w.cell? ⟨g, k * 6 + 4, none⟩ = some (.string t) ∧ w.cell? ⟨g, k * 6 + 5, none⟩ = some (.slice none 0 0) := by
  have hv := h.2.2.2 (ps[k]) (List.getElem_mem hk)
  obtain ⟨d, sa, sn, sc, q, t, he, hcs, _⟩ := hv.cells6
  have h6 : ∀ p ∈ ps, p.1.cells.toList.length = 6 := fun p hp => by
    obtain ⟨_, _, _, _, _, _, _, hcs, _⟩ := (h.2.2.2 p hp).cells6
    rw [hcs]; rfl
  have hn : n = ps.length := by
    rcases h.1.2 with ⟨h1, _⟩ | ⟨g', cap, cur, h1, _⟩
    · cases h1
    · cases h1; rfl
  subst hn
  have hc : ∀ j, j < 6 → w.cell? ⟨g, k * 6 + j, none⟩ = [Value.int .i64 (kindOf (ps[k]).2), .bool d, .slice sa sn sc, .int .u64 q, .string t, .slice none 0 0][j]? := fun j hj => by
    have := h.1.cellAt (k * 6 + j) (by omega)
    rw [this, flat_at ps h6 k j hj hk, hcs]
  exact ⟨d, sa, sn, sc, q, t, he, hv, hc 0 (by omega), hc 1 (by omega), hc 2 (by omega), hc 3 (by omega), hc 4 (by omega), hc 5 (by omega)⟩
theorem KP.cells1 {ok : Nat → Prop} {w : World} {v : Value} {s : Sc} (h : KP ok w v s) : v.cells.toList = [v] ∧ v.oneCell' = true := by
  cases s <;> first | (obtain rfl := h; exact ⟨rfl, rfl⟩) | (obtain ⟨rfl, _⟩ := h; exact ⟨rfl, rfl⟩) | (obtain ⟨u, rfl, _⟩ := h; exact ⟨rfl, rfl⟩)
theorem KL.at {B : Nat} {ok : Nat → Prop} {w : World} {g n c : Nat} {ps : Ps} (h : KL B ok w (.slice (some ⟨g, 0, none⟩) n c) ps) (k : Nat) (hk : k < ps.length) : w.cell? ⟨g, k, none⟩ = some (ps[k]).1 ∧ KP ok w (ps[k]).1 (ps[k]).2 := by
  have hn : n = ps.length := by
    rcases h.1.2 with ⟨h1, _⟩ | ⟨g', cap, cur, h1, _⟩
    · cases h1
    · cases h1; rfl
  subst hn
  refine ⟨?_, h.2.2.2 (ps[k]) (List.getElem_mem hk)⟩
  rw [h.1.cellAt k (by omega), flat_at1 ps (fun p hp => (h.2.2.2 p hp).cells1.1) k hk]
end Go.Proofs.YtllgogkjcbdpkaaGreat
