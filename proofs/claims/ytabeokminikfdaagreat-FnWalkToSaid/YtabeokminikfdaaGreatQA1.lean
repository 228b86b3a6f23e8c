import Derived.WalkKit
import Derived.Laws.AppendOwn
import Derived.Laws.OwnMore
import Derived.WalkSpells
import Derived.WalkLawsBesides
import Derived.Deep.QuietTactic
import Derived.BigQuiet
import Derived.Lib.Hide
import Derived.Lib.SmallJoins
import Derived.Deep.DeepCutAuto
import Derived.Deep.RegionWith
import Derived.Deep.RegionHeld3
import Derived.Laws.RangeString
import Derived.Test.YtabeokminikfdaaGreatProg
import Derived.Tactics
import Derived.Tactics2
import Derived.LoopTactic
import Derived.Below
set_option linter.all false
set_option maxRecDepth 100000
set_option maxHeartbeats 1000000
namespace Go.Proofs.YtabeokminikfdaaGreat
open Go.RowKit
theorem own_le {w : World} {B B' : Nat} {e : TypeId} {z : Nat} {v : Value} {n : Nat} {xs : List Value} (h : w.ownsRow B e z v n xs) (hB : B' ≤ B) : w.ownsRow B' e z v n xs := by
 refine ⟨h.1, ?_⟩
 rcases h.2 with h2 | ⟨g, cap, cur, p, q, r⟩
 ·exact .inl h2
 ·exact .inr ⟨g, cap, cur, p, Nat.le_trans hB q, r⟩
def BlockOf (w : World) (v v' : Value) : Prop := v'.ownBlock = v.ownBlock ∨ ∃ g, v'.ownBlock = some g ∧ w.heap.size ≤ g
def SrcAt (w : World) (x : Value) (m : Nat) (news : List Value) : Prop := (x = .slice none 0 0 ∧ m = 0 ∧ news = []) ∨ ∃ ad c, x = .slice (some ad) m c ∧ ∀ j u, news[j]? = some u → w.cell? (ad.add j) = some u
theorem SrcAt.own {w : World} {B : Nat} {e : TypeId} {z : Nat} {v : Value} {n : Nat} {xs : List Value} (h : w.ownsRow B e z v n xs) : SrcAt w v n xs := by
 rcases h.2 with ⟨rfl, rfl⟩ | ⟨g, cap, cur, rfl, hb, hg, hn, hm, hc, ht⟩
 ·exact .inl ⟨rfl, rfl, List.eq_nil_of_length_eq_zero (by simpa using h.1)⟩
 ·exact .inr ⟨_, _, rfl, World.ownsRow.cells h rfl⟩
theorem run_append_blk {P : Program} (w : World) (base : Nat) (t ty e : TypeId) (i : TypeInfo) (z : Value) (size bytes : Nat) (ht : P.underlying t = some (.slice e)) (hi : P.info? e = some i) (hz : i.zero = some z)
  (hsize : i.size = size) (hby : i.bytes = bytes) (hzs : z.cells.size = size) (hsz : 0 < size)
  (v : Value) (n : Nat) (xs : List Value) (hown : w.ownsRow base e size v n xs)
  (x : Value) (m : Nat) (news : List Value) (hx : SrcAt w x m news) (hl : news.length = m * size) (h1 : ∀ u ∈ news, u.oneCell' = true)
  (h63 : n + m ≤ maxLen) (hbytes : (n + m) * bytes ≤ 140737488355328) (hbase : base ≤ w.heap.size) :
  ∃ v' w', (Builtin.append_ #[t, t] ty #[v, x]).run P w = .ok v' w' ∧ w'.ownsRow base e size v' (n + m) (xs ++ news) ∧ w.grownBy w' v.ownBlock ∧ BlockOf w v v' := by
 rcases hx with ⟨rfl, rfl, rfl⟩ | ⟨a, c, rfl, hnews⟩
 ·exact ⟨v, w, run_append_owned_none (P := P) w base t ty e i size ht hi v n xs hown, by simpa using hown, World.grownBy.refl _ _, .inl rfl⟩
 rcases hown.2 with ⟨rfl, rfl⟩ | ⟨g, cap, cur, rfl, hbg, hg, hnc, hcm, hcs, htake⟩
 ·have ho : w.ownsRow w.heap.size e size (.slice none 0 0) 0 xs := ⟨hown.1, .inl ⟨rfl, rfl⟩⟩
  obtain ⟨v', w', hr, h2, h3, h4⟩ := run_append_own (P := P) w w.heap.size t ty e i z size bytes ht hi hz hsize hby hzs hsz _ 0 xs ho a m c news hl hnews h1 h63 hbytes (Nat.le_refl _)
  refine ⟨v', w', hr, own_le h2 hbase, h3, ?_⟩
  cases hv : v'.ownBlock with
  | none => exact .inl (by rw [hv]; rfl)
  | some g => exact .inr ⟨g, hv, (World.ownsRow.lt h2 g hv).1⟩
 ·by_cases hroom : n + m ≤ cap
  ·obtain ⟨w', hr, h2, h3⟩ := run_append_fits (P := P) w base t ty e i size ht hi hsize g n cap xs hown a m c news hl hnews h1 hroom
   exact ⟨_, w', hr, h2, h3, .inl rfl⟩
  ·obtain ⟨v', w', hr, h2, h3, h4⟩ := run_append_own (P := P) w base t ty e i z size bytes ht hi hz hsize hby hzs hsz _ n xs hown a m c news hl hnews h1 h63 hbytes hbase
   have hr2 := run_append_grow (P := P) w t ty e i z ht hi hz ⟨g, 0, none⟩ n cap xs (by rw [hown.1, hsize]) (World.ownsRow.cells hown rfl) a m c news (by rw [hl, hsize]) hnews (by omega) (by simp only [maxLen] at h63; omega) (growslice_fits (by omega) (by rw [hby]; exact hbytes))
   rw [hr2] at hr
   have hv : v' = _ := (Result.ok.inj hr).1.symm
   refine ⟨v', w', ?_, h2, h3, .inr ⟨w.heap.size, by rw [hv]; rfl, Nat.le_refl _⟩⟩
   rw [hr2]; exact hr
theorem wp_append_blk {P : Program} {w : World} {o : Oper} {a : Act} {K : Act → World → Prop} {Q : Exit → Act → World → Prop} (s x : Operand) (t : TypeId)
  (ho : o.op = .call { callee := .builtin .append, args := #[s, x], argTypes := #[t, t] })
  (base : Nat) (e : TypeId) (i : TypeInfo) (z : Value) (size bytes : Nat) (ht : P.underlying t = some (.slice e)) (hi : P.info? e = some i) (hz : i.zero = some z)
  (hsize : i.size = size) (hby : i.bytes = bytes) (hzs : z.cells.size = size) (hsz : 0 < size)
  (v : Value) (n : Nat) (xs : List Value) (hs : a.eval s = v) (hown : w.ownsRow base e size v n xs)
  (vx : Value) (m : Nat) (news : List Value) (hx : a.eval x = vx) (hsrc : SrcAt w vx m news) (hl : news.length = m * size) (h1 : ∀ u ∈ news, u.oneCell' = true)
  (h63 : n + m ≤ maxLen) (hbytes : (n + m) * bytes ≤ 140737488355328) (hbase : base ≤ w.heap.size)
  (h : ∀ v' w', w'.ownsRow base e size v' (n + m) (xs ++ news) → w.grownBy w' v.ownBlock → BlockOf w v v' → K (a.put o.dst v') w') : o.wp P a w K Q := by
 obtain ⟨v', w', hr, h2, h3, h4⟩ := run_append_blk (P := P) w base t o.type e i z size bytes ht hi hz hsize hby hzs hsz v n xs hown vx m news hsrc hl h1 h63 hbytes hbase
 unfold Oper.wp execOp
 simp only [ho, resolve, invoke, builtin, Sem.run_bind, Sem.run_pure, Result.andThen_ok, List.map_toArray, List.map_cons, List.map_nil, hs, hx, hr]
 exact h v' w' h2 h3 h4
theorem wpList_append_blk {P : Program} {w : World} {ops : Array Oper} {rest : List Oper} {o : Oper} {a : Act} {Q : Exit → Act → World → Prop} (hgd : o.guard = none) (s x : Operand) (t : TypeId)
  (ho : o.op = .call { callee := .builtin .append, args := #[s, x], argTypes := #[t, t] })
  (base : Nat) (e : TypeId) (i : TypeInfo) (z : Value) (size bytes : Nat) (ht : P.underlying t = some (.slice e)) (hi : P.info? e = some i) (hz : i.zero = some z)
  (hsize : i.size = size) (hby : i.bytes = bytes) (hzs : z.cells.size = size) (hsz : 0 < size)
  (v : Value) (n : Nat) (xs : List Value) (hs : a.eval s = v) (hown : w.ownsRow base e size v n xs)
  (vx : Value) (m : Nat) (news : List Value) (hx : a.eval x = vx) (hsrc : SrcAt w vx m news) (hl : news.length = m * size) (h1 : ∀ u ∈ news, u.oneCell' = true)
  (h63 : n + m ≤ maxLen) (hbytes : (n + m) * bytes ≤ 140737488355328) (hbase : base ≤ w.heap.size)
  (h : ∀ v' w', w'.ownsRow base e size v' (n + m) (xs ++ news) → w.grownBy w' v.ownBlock → BlockOf w v v' → wpList P ops Q rest (a.put o.dst v') w') : wpList P ops Q (o :: rest) a w :=
 wpList_plain hgd fun _ hK => wp_append_blk s x t ho base e i z size bytes ht hi hz hsize hby hzs hsz v n xs hs hown vx m news hx hsrc hl h1 h63 hbytes hbase fun v' w' h2 h3 h4 => hK _ _ (h v' w' h2 h3 h4)
theorem step_append_blk {P : Program} {w : World} {ops : Array Oper} {o : Oper} {a : Act} {K : Act → World → Prop} {Q : Exit → Act → World → Prop} {E : Prop} (hgd : o.guard = none) (s x : Operand) (t : TypeId)
  (ho : o.op = .call { callee := .builtin .append, args := #[s, x], argTypes := #[t, t] })
  (base : Nat) (e : TypeId) (i : TypeInfo) (z : Value) (size bytes : Nat) (ht : P.underlying t = some (.slice e)) (hi : P.info? e = some i) (hz : i.zero = some z)
  (hsize : i.size = size) (hby : i.bytes = bytes) (hzs : z.cells.size = size) (hsz : 0 < size)
  (v : Value) (n : Nat) (xs : List Value) (hs : a.eval s = v) (hown : w.ownsRow base e size v n xs)
  (vx : Value) (m : Nat) (news : List Value) (hx : a.eval x = vx) (hsrc : SrcAt w vx m news) (hl : news.length = m * size) (h1 : ∀ u ∈ news, u.oneCell' = true)
  (h63 : n + m ≤ maxLen) (hbytes : (n + m) * bytes ≤ 140737488355328) (hbase : base ≤ w.heap.size)
  (h : ∀ v' w', w'.ownsRow base e size v' (n + m) (xs ++ news) → w.grownBy w' v.ownBlock → BlockOf w v v' → K (a.put o.dst v') w') : if Region.wanted o (yielded ops a.tmps) = true then Oper.wp P o a w K Q else E := by
 have hw : Region.wanted o (yielded ops a.tmps) = true := by simp [Region.wanted, hgd]
 rw [if_pos hw]
 exact wp_append_blk s x t ho base e i z size bytes ht hi hz hsize hby hzs hsz v n xs hs hown vx m news hx hsrc hl h1 h63 hbytes hbase h
end Go.Proofs.YtabeokminikfdaaGreat
namespace Go.Proofs.YtabeokminikfdaaGreat
open Go.RowKit
theorem bA {w : World} {o : Obj} : Below w.heap.size w (w.alloc o) := (Below.refl _ _).alloc (Nat.le_refl _) _
theorem cell_below {w w' : World} {a : Addr} {v : Value} (h : w.cell? a = some v) (hb : Below w.heap.size w w') : w'.cell? a = some v :=
 (hb.cell (World.block_lt_of_cell? w _ h)).trans h
theorem below_drewN {B : Nat} {a w : World} (h : Below B a w) (n : Nat) : Below B a (w.drewN n) := ⟨h.os, h.tape, h.output, h.size, h.block⟩
theorem bcell {W w1 : World} (hb : Below W.heap.size W w1) : (∀ b o, b < W.heap.size → w1.cell? ⟨b, o, none⟩ = W.cell? ⟨b, o, none⟩) ∧ (∀ b o, b < W.heap.size → w1.frozen? ⟨b, o, none⟩ = W.frozen? ⟨b, o, none⟩) :=
 ⟨fun b o h => hb.cell (p := ⟨b, o, none⟩) h, fun b o h => hb.frozen (p := ⟨b, o, none⟩) h⟩
theorem own_len {w : World} {base : Nat} {e : TypeId} {size : Nat} {v : Value} {n : Nat} {xs : List Value} (h : w.ownsRow base e size v n xs) : ∃ A c, v = .slice A n c := by
 rcases h.2 with ⟨rfl, h0⟩ | ⟨g, cap, cur, rfl, _⟩
 ·exact ⟨none, 0, by rw [h0]⟩
 ·exact ⟨_, _, rfl⟩
theorem one_new (w : World) (u : Value) (t : TypeId) : ∀ (j : Nat) (x : Value), [u][j]? = some x → (w.alloc (.cells #[u] t)).cell? ((⟨w.heap.size, 0, none⟩ : Addr).add j) = some x := by
 intro j x hj
 match j, hj with
 | 0, hj => simp at hj; subst hj; simp [Addr.add, go_sem]
 | j + 1, hj => simp at hj
theorem one_cell (b : ByteArray) : ∀ u ∈ [Value.string b], u.oneCell' = true := by intro u hu; simp at hu; subst hu; rfl
theorem own_room (w : World) (z : Value) (c : Nat) (e : TypeId) (hc : c ≤ maxLen) : (w.alloc (.cells (madeCells #[z] c) e)).ownsRow w.heap.size e 1 (.slice (some ⟨w.heap.size, 0, none⟩) 0 c) 0 [] :=
 ⟨by simp, .inr ⟨w.heap.size, c, _, rfl, Nat.le_refl _, heap_alloc_new w _, Nat.zero_le _, hc, by simp [size_madeCells], by simp⟩⟩
theorem own_form {w : World} {base : Nat} {e : TypeId} {A : Option Addr} {n c : Nat} {xs : List Value} (h : w.ownsRow base e 1 (.slice A n c) n xs) (hn : 0 < n) : ∃ g, A = some ⟨g, 0, none⟩ := by
 rcases h.2 with ⟨_, h0⟩ | ⟨g, cap, cur, h1, _⟩
 ·omega
 ·injection h1 with h2
  exact ⟨g, h2⟩
theorem own_below {w w' : World} {base : Nat} {e : TypeId} {size : Nat} {v : Value} {n : Nat} {xs : List Value} (h : w.ownsRow base e size v n xs) (hb : Below w.heap.size w w') : w'.ownsRow base e size v n xs := by
 obtain ⟨h1, h2⟩ := h
 refine ⟨h1, ?_⟩
 rcases h2 with h2 | ⟨g, cap, cur, a, b, c, d⟩
 ·exact .inl h2
 ·exact .inr ⟨g, cap, cur, a, b, by rw [hb.block g (Array.getElem?_eq_some_iff.1 c).1]; exact c, d⟩
theorem own_cap {w : World} {base : Nat} {e : TypeId} {g n cap : Nat} {xs : List Value} (h : w.ownsRow base e 1 (.slice (some ⟨g, 0, none⟩) n cap) n xs) : n ≤ cap ∧ base ≤ g ∧ g < w.heap.size := by
 rcases h.2 with ⟨h2, _⟩ | ⟨g', cap', cur, a, b, c, d, _⟩
 ·cases h2
 ·cases a
  exact ⟨d, b, (Array.getElem?_eq_some_iff.1 c).1⟩
theorem own_formS {w : World} {base : Nat} {e : TypeId} {z : Nat} {A : Option Addr} {n c : Nat} {xs : List Value} (h : w.ownsRow base e z (.slice A n c) n xs) (hn : 0 < n) : ∃ g, A = some ⟨g, 0, none⟩ ∧ g < w.heap.size := by
 rcases h.2 with ⟨_, h0⟩ | ⟨g, cap, cur, h1, _, hg, _⟩
 ·omega
 ·injection h1 with h2
  exact ⟨g, h2, (Array.getElem?_eq_some_iff.1 hg).1⟩
theorem rel_app1 {wr w0 w1 : World} {B e k : Nat} {v v' : Value} {xs ys : List Value} {o1 : Obj} {n : Nat} (hown : wr.ownsRow B e 1 v k xs) (hb : Below B w0 wr) (hsz : B ≤ wr.heap.size)
  (hown' : w1.ownsRow B e 1 v' n ys) (hgrow : (wr.alloc o1).grownBy w1 v.ownBlock) : w1.ownsRow B e 1 v' n ys ∧ Below B w0 w1 :=
 ⟨hown', (hb.alloc hsz o1).grown hgrow (by simp; omega) fun k' hk => (hown.lt k' hk).1⟩
theorem rel_app0 {wr w0 w1 : World} {B e k : Nat} {v v' : Value} {xs ys : List Value} {n : Nat} (hown : wr.ownsRow B e 1 v k xs) (hb : Below B w0 wr) (hsz : B ≤ wr.heap.size)
  (hown' : w1.ownsRow B e 1 v' n ys) (hgrow : wr.grownBy w1 v.ownBlock) : w1.ownsRow B e 1 v' n ys ∧ Below B w0 w1 :=
 ⟨hown', hb.grown hgrow hsz fun k' hk => (hown.lt k' hk).1⟩
theorem int_ne (a b : Int) (h : ¬ a = b) : (a == b) = false := by simpa using h
theorem own_setOld {w : World} {base : Nat} {e : TypeId} {size : Nat} {v : Value} {n : Nat} {xs : List Value} (h : w.ownsRow base e size v n xs) {a : Addr} (ha : a.block < base) (u : Value) : (w.setCell a u).ownsRow base e size v n xs := by
 refine ⟨h.1, ?_⟩
 rcases h.2 with h2 | ⟨g, cap, cur, p, q, r, t⟩
 ·exact .inl h2
 ·exact .inr ⟨g, cap, cur, p, q, by rw [Below.heap_setCell w a u g (by omega)]; exact r, t⟩
theorem own_via {b c d : World} {B : Nat} {e : TypeId} {z : Nat} {v : Value} {n : Nat} {xs : List Value} (h : b.ownsRow B e z v n xs) (hb : Below c.heap.size c d) (s : c.heap = b.heap) : d.ownsRow B e z v n xs := by
 refine own_below (w := c) ⟨h.1, ?_⟩ hb
 rcases h.2 with h2 | ⟨g, cap, cur, p, q, r, t⟩
 ·exact .inl h2
 ·exact .inr ⟨g, cap, cur, p, q, by rw [s]; exact r, t⟩
theorem own_heap {b c : World} {B : Nat} {e : TypeId} {z : Nat} {v : Value} {n : Nat} {xs : List Value} (h : b.ownsRow B e z v n xs) (s : c.heap = b.heap) : c.ownsRow B e z v n xs := own_via h (Below.refl _ _) s
theorem bel_same {B : Nat} {a b c : World} (h : Below B a b) (s : c.heap = b.heap ∧ c.os = b.os ∧ c.tape = b.tape ∧ c.output = b.output) : Below B a c :=
 ⟨s.2.1.trans h.os, s.2.2.1.trans h.tape, s.2.2.2.trans h.output, by rw [s.1]; exact h.size, fun k hk => by rw [s.1]; exact h.block k hk⟩
theorem bel_from {B : Nat} {a b c : World} (h : Below B a b) (s : a.heap = c.heap ∧ a.os = c.os ∧ a.tape = c.tape ∧ a.output = c.output) : Below B c b :=
 ⟨h.os.trans s.2.1, h.tape.trans s.2.2.1, h.output.trans s.2.2.2, by have := h.size; rw [s.1] at this; exact this, fun k hk => by have := h.block k hk; rw [s.1] at this; exact this⟩
end Go.Proofs.YtabeokminikfdaaGreat
namespace Go.Proofs.YtabeokminikfdaaGreat
inductive Tr
 | mk (name : Option ByteArray) (kids : List Tr)
mutual
def Tr.size : Tr → Nat
 | .mk _ ks => 1 + sizes ks
def sizes : List Tr → Nat
 | [] => 0
 | t :: ts => t.size + sizes ts
end
mutual
def Tr.all : Tr → List ByteArray
 | .mk nm ks => nm.toList ++ alls ks
def alls : List Tr → List ByteArray
 | [] => []
 | t :: ts => t.all ++ alls ts
end
structure St where
 names : List ByteArray
 n : Nat
 e : Nat
mutual
def visit (few : Int) : Tr → St → St
 | .mk nm ks, s => if few < 0 ∨ ((s.n + 1 : Nat) : Int) ≤ few then
   ⟨(visits few ks ⟨s.names ++ nm.toList, s.n + 1, s.e⟩).names, (visits few ks ⟨s.names ++ nm.toList, s.n + 1, s.e⟩).n, (visits few ks ⟨s.names ++ nm.toList, s.n + 1, s.e⟩).e + 1⟩
  else ⟨s.names ++ nm.toList, s.n + 1, s.e⟩
def visits (few : Int) : List Tr → St → St
 | [], s => s
 | t :: ts, s => visits few ts (visit few t s)
end
mutual
theorem visit_all (few : Int) (h : few < 0) : ∀ (t : Tr) (s : St), visit few t s = ⟨s.names ++ t.all, s.n + t.size, s.e + t.size⟩
 | .mk nm ks, s => by
  rw [visit, if_pos (.inl h), visits_all few h ks]
  simp only [Tr.all, Tr.size, List.append_assoc]
  congr 1
  ·omega
  ·omega
theorem visits_all (few : Int) (h : few < 0) : ∀ (ts : List Tr) (s : St), visits few ts s = ⟨s.names ++ alls ts, s.n + sizes ts, s.e + sizes ts⟩
 | [], s => by simp [visits, alls, sizes]
 | t :: ts, s => by
  rw [visits, visit_all few h t, visits_all few h ts]
  simp only [alls, sizes, List.append_assoc]
  congr 1
  ·omega
  ·omega
end
structure Keeps (k : Nat) (s s' : St) (sz : Nat) (nm : List ByteArray) : Prop where
 lo : s.n ≤ s'.n
 hi : s'.n ≤ s.n + sz
 e : s'.e + min k s.n = s.e + min k s'.n
 len : s'.names.length ≤ s.names.length + nm.length
 same : s.n + sz ≤ k → s'.names = s.names ++ nm ∧ s'.n = s.n + sz
mutual
theorem visit_keeps (k : Nat) : ∀ (t : Tr) (s : St), Keeps k s (visit (k : Int) t s) t.size t.all
 | .mk nm ks, s => by
  have h := visits_keeps k ks ⟨s.names ++ nm.toList, s.n + 1, s.e⟩
  have h1 := h.lo
  have h2 := h.hi
  have h3 := h.e
  have h4 := h.len
  simp only [List.length_append] at h1 h2 h3 h4
  rw [visit]
  by_cases hk : s.n + 1 ≤ k
  ·rw [if_pos (.inr (by omega))]
   refine ⟨by simp only []; omega, by simp only [Tr.size]; omega, by simp only []; omega, by simp only [Tr.all, List.length_append]; omega, fun hs => ?_⟩
   simp only [Tr.size] at hs
   obtain ⟨h5, h6⟩ := h.same (by simp only []; omega)
   simp only [] at h5 h6
   simp only [h5, h6, Tr.all, Tr.size, List.append_assoc]
   exact ⟨trivial, by omega⟩
  ·rw [if_neg (by omega)]
   refine ⟨by simp only []; omega, by simp only [Tr.size]; omega, by simp only []; omega, by simp only [Tr.all, List.length_append]; omega, fun hs => ?_⟩
   simp only [Tr.size] at hs
   omega
theorem visits_keeps (k : Nat) : ∀ (ts : List Tr) (s : St), Keeps k s (visits (k : Int) ts s) (sizes ts) (alls ts)
 | [], s => ⟨Nat.le_refl _, by simp [visits, sizes], by simp [visits], by simp [visits, alls], fun _ => by simp [visits, alls, sizes]⟩
 | t :: ts, s => by
  have h := visit_keeps k t s
  have g := visits_keeps k ts (visit (k : Int) t s)
  have h1 := h.lo
  have h2 := h.hi
  have h3 := h.e
  have h4 := h.len
  have g1 := g.lo
  have g2 := g.hi
  have g3 := g.e
  have g4 := g.len
  rw [visits]
  refine ⟨by omega, by simp only [sizes]; omega, by omega, by simp only [alls, List.length_append]; omega, fun hs => ?_⟩
  simp only [sizes] at hs
  obtain ⟨a1, a2⟩ := h.same (by omega)
  obtain ⟨b1, b2⟩ := g.same (by omega)
  simp only [b1, b2, a1, a2, alls, sizes, List.append_assoc]
  exact ⟨trivial, by omega⟩
end
theorem Tr.size_pos (t : Tr) : 0 < t.size := by cases t; simp [Tr.size]; omega
theorem law (k : Nat) (t : Tr) :
  let a := visit (-1) t ⟨[], 0, 0⟩
  let b := visit (k : Int) t ⟨[], 0, 0⟩
  b.names.length ≤ a.names.length ∧ b.n ≤ a.n ∧ b.e = min k b.n ∧ (k < a.n ∨ b.names = a.names) := by
 have h := visit_keeps k t ⟨[], 0, 0⟩
 have ha := visit_all (-1) (by decide) t ⟨[], 0, 0⟩
 have h2 := h.hi
 have h3 := h.e
 have h4 := h.len
 simp only [List.length_nil, Nat.zero_add, Nat.min_zero, Nat.add_zero] at h2 h3 h4
 simp only [ha, List.nil_append, Nat.zero_add]
 refine ⟨h4, h2, h3, ?_⟩
 by_cases hk : k < t.size
 ·exact .inl hk
 ·right
  obtain ⟨h5, _⟩ := h.same (by simp only []; omega)
  simpa using h5
end Go.Proofs.YtabeokminikfdaaGreat
namespace Go.Proofs.YtabeokminikfdaaGreat
open Go.RowKit
def Strs (w : World) (v : Value) (l : List ByteArray) : Prop :=
 (l = [] ∧ (v = .slice none 0 0 ∨ ∃ a c, v = .slice (some a) 0 c)) ∨
 (0 < l.length ∧ ∃ g off c, v = .slice (some ⟨g, off, none⟩) l.length c ∧ l.length ≤ c ∧ ∀ i, i < l.length → w.cell? ⟨g, off + i, none⟩ = some (.string (l.getD i ByteArray.empty)))
theorem Strs.len {w : World} {v : Value} {l : List ByteArray} (h : Strs w v l) : ∃ a c, v = .slice a l.length c := by
 rcases h with ⟨rfl, rfl | ⟨a, c, rfl⟩⟩ | ⟨_, g, off, c, rfl, _, _⟩
 ·exact ⟨_, _, rfl⟩
 ·exact ⟨_, _, rfl⟩
 ·exact ⟨_, _, rfl⟩
theorem f9_same (v1 v2 : Value) (l : List ByteArray) (hl : l.length ≤ 1000000) (w : World) (h1 : Strs w v1 l) (h2 : Strs w v2 l) : Calls Tryz.prog 9 #[v1, v2] w fun e w' => e = .returned (.bool true) ∧ w = w' := by
 by_cases h0 : l.length = 0
 ·obtain ⟨a1, c1, rfl⟩ := h1.len
  obtain ⟨a2, c2, rfl⟩ := h2.len
  rw [h0]
  clear h0 h1 h2
  go_enter Tryz.func9, Tryz.ntmps9
  go_wp2
  go_loop [14] (fun i => i = .int .i64 0) (fun _ => 0)
  case atStart => rfl
  case round =>
   subst hrel
   go_wp2
   go_ret
   exact ⟨rfl, rfl⟩
 ·rcases h1 with ⟨rfl, _⟩ | ⟨_, g1, o1, c1, rfl, hc1, H1⟩
  ·simp at h0
  rcases h2 with ⟨rfl, _⟩ | ⟨_, g2, o2, c2, rfl, hc2, H2⟩
  ·simp at h0
  have K1 := Lib.hid H1
  have K2 := Lib.hid H2
  clear H1 H2
  go_enter Tryz.func9, Tryz.ntmps9
  go_wp2
  go_loop [14] (fun i => ∃ k : Nat, k ≤ l.length ∧ i = .int .i64 k) (fun i => l.length - (intOf i).toNat)
  case atStart => exact ⟨0, Nat.zero_le _, rfl⟩
  case round =>
   obtain ⟨k, hk, rfl⟩ := hrel
   by_cases hlt : k < l.length
   ·have a1 := K1.out k hlt
    have a2 := K2.out k hlt
    generalize l.getD k ByteArray.empty = s at *
    go_wp2
    go_round
    case rel => exact ⟨k + 1, by omega, by go_num⟩
    case measure => simp [intOf]; omega
   ·go_wp2
    go_ret
    exact ⟨rfl, rfl⟩
end Go.Proofs.YtabeokminikfdaaGreat
