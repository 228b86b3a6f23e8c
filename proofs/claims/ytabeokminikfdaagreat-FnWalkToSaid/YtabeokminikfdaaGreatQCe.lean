import Derived.Test.YtabeokminikfdaaGreatQCa
import Derived.Test.YtabeokminikfdaaGreatQA3
import Derived.Test.YtabeokminikfdaaGreatQA1
set_option linter.all false
set_option maxRecDepth 100000
set_option maxHeartbeats 4000000
namespace Go.Proofs.YtabeokminikfdaaGreat
open Go.RowKit
def TokB (w : World) (e : Ending) (w' : World) : Prop := ∃ t : Int, e = .returned (.tuple #[.int .i8 t, .bool true]) ∧ Below w.heap.size w w'
def TokN (w : World) (e : Ending) (w' : World) : Prop := e = .returned (.tuple #[.int .i8 0, .bool false]) ∧ Below w.heap.size w w'
theorem f56_any (x : Int) (h1 : 19 ≤ x) (h2 : x ≤ 22) (w : World) : Calls Tryz.prog 56 #[.int .i64 x] w (TokB w) := by
 obtain rfl | rfl | rfl | rfl : x = 19 ∨ x = 20 ∨ x = 21 ∨ x = 22 := by omega
 all_goals
  clear h1 h2
  go_enter Tryz.func56, Tryz.ntmps56
  go_wp2
  go_ret2
  exact ⟨_, rfl, (Below.refl _ _).alloc (Nat.le_refl _) _⟩
theorem f57_yes (x : Int) (h1 : 0 ≤ x) (h2 : x ≤ 12) (w : World) : Calls Tryz.prog 57 #[.int .i64 x] w (TokB w) := by
 obtain rfl | rfl | rfl | rfl | rfl | rfl | rfl | rfl | rfl | rfl | rfl | rfl | rfl : x = 0 ∨ x = 1 ∨ x = 2 ∨ x = 3 ∨ x = 4 ∨ x = 5 ∨ x = 6 ∨ x = 7 ∨ x = 8 ∨ x = 9 ∨ x = 10 ∨ x = 11 ∨ x = 12 := by omega
 all_goals
  clear h1 h2
  go_enter Tryz.func57, Tryz.ntmps57
  go_wp2
  go_ret2
  exact ⟨_, rfl, (Below.refl _ _).alloc (Nat.le_refl _) _⟩
theorem f57_no (x : Int) (h1 : 13 ≤ x) (h2 : x ≤ 18) (w : World) : Calls Tryz.prog 57 #[.int .i64 x] w (TokN w) := by
 obtain rfl | rfl | rfl | rfl | rfl | rfl : x = 13 ∨ x = 14 ∨ x = 15 ∨ x = 16 ∨ x = 17 ∨ x = 18 := by omega
 all_goals
  clear h1 h2
  go_enter Tryz.func57, Tryz.ntmps57
  go_wp2
  go_ret2
  exact ⟨rfl, (Below.refl _ _).alloc (Nat.le_refl _) _⟩
theorem f58_any (x : Int) (h1 : 13 ≤ x) (h2 : x ≤ 18) (w : World) : Calls Tryz.prog 58 #[.int .i64 x] w (TokB w) := by
 obtain rfl | rfl | rfl | rfl | rfl | rfl : x = 13 ∨ x = 14 ∨ x = 15 ∨ x = 16 ∨ x = 17 ∨ x = 18 := by omega
 all_goals
  clear h1 h2
  go_enter Tryz.func58, Tryz.ntmps58
  go_wp2
  go_ret2
  exact ⟨_, rfl, (Below.refl _ _).alloc (Nat.le_refl _) _⟩
def MadeB (W : World) (gm : Nat) (nm : ByteArray) (N : Nat) (vi vf : Value) (b : Nat) (w : World) (Q : (Addr → Value → Prop) → Value → Prop) (e : Ending) (w' : World) : Prop :=
 ∃ v vi' vf', e = .returned v ∧ Mk W gm nm vi' vf' N w' ∧ Stp gm vi vf w vi' vf' w' ∧ Q (Sees w' (New b gm vi' vf' w')) v
theorem sees_at {b gm : Nat} {vi vf : Value} {w' : World} {g : Nat} {cs : Array Value} {T : TypeId} {z : Nat × Nat} (h : w'.heap[g]? = some (.cells cs T z)) (hn : New b gm vi vf w' g) (i : Nat) (u : Value) (hu : cs[i]? = some u) : Sees w' (New b gm vi vf w') ⟨g, i, none⟩ u :=
 ⟨hn, by simp [World.cell?, h, hu]⟩
theorem Below.drewed {B : Nat} {a b : World} (h : Below B a b) : Below B a b.drew := bel_same h ⟨rfl, rfl, rfl, rfl⟩
theorem Nds.cell {R : Addr → Value → Prop} {T : TypeId} {a : Option Addr} {ts : List Tr} (h : Nds R T a ts) (j : Nat) (hj : j < ts.length) : ∃ b i v, a = some ⟨b, i, none⟩ ∧ R ⟨b, i + j, none⟩ v ∧ Nd R (asNode T v) ts[j] := by
 obtain ⟨b, i, rfl⟩ : ∃ b i, a = some ⟨b, i, none⟩ := by
  cases h with
  | nil => exact absurd hj (Nat.not_lt_zero j)
  | cons T b i v t ts hc hn hr => exact ⟨b, i, rfl⟩
 obtain ⟨v, hv, hd⟩ := Nds.get h j hj
 exact ⟨b, i, v, rfl, hv, hd⟩
theorem new2 (w : World) (a b : Obj) : ((w.alloc a).alloc b).heap[w.heap.size + 1]? = some b := by
 have := heap_alloc_new (w.alloc a) b
 rwa [sz1] at this
theorem Nd.if0 {R : Addr → Value → Prop} {v : Value} {t : Tr} (h : Nd R (asNode 0 v) t) : ∃ T p, v = .iface T p := Nd.iface h
theorem made_new {W : World} {gm : Nat} {nm : ByteArray} {N : Nat} {vi vf vi' vf' : Value} {b : Nat} {w wk w' : World} {v : Value} {Q : (Addr → Value → Prop) → Value → Prop} (hM : Mk W gm nm vi' vf' N wk) (hS : Stp gm vi vf w vi' vf' wk) (hb : b ≤ wk.heap.size) (hB : Below wk.heap.size wk w') {g : Nat} (hg1 : wk.heap.size ≤ g) {cs : Array Value} {T : TypeId} (hg : w'.heap[g]? = some (.cells cs T (0, 0)))
  (hQ : ∀ R : Addr → Value → Prop, (∀ i u, cs[i]? = some u → R ⟨g, i, none⟩ u) → (∀ a x, Sees wk (New b gm vi' vf' wk) a x → R a x) → Q R v) : MadeB W gm nm N vi vf b w Q (.returned v) w' := by
 have hS2 := Stp.of_below (gm := gm) (vi := vi') (vf := vf') hB
 have hlt : g < w'.heap.size := (Array.getElem?_eq_some_iff.1 hg).1
 refine ⟨v, vi', vf', rfl, hM.after hB, hS.trans hS2, hQ _ (sees_at hg ⟨Nat.le_trans hb hg1, hM.safe_new hg1 hlt⟩) ?_⟩
 exact Sees.mono (fun k hk => (New.step hS2 (Nat.le_refl b) k hk).1) fun k hk => (New.step hS2 (Nat.le_refl b) k hk).2
theorem sees_step {b gm : Nat} {vi vf vi' vf' : Value} {w w' : World} (h : Stp gm vi vf w vi' vf' w') (a : Addr) (x : Value) (hx : Sees w (New b gm vi vf w) a x) : Sees w' (New b gm vi' vf' w') a x :=
 Sees.mono (fun k hk => (New.step h (Nat.le_refl b) k hk).1) (fun k hk => (New.step h (Nat.le_refl b) k hk).2) a x hx
end Go.Proofs.YtabeokminikfdaaGreat
namespace Go.Proofs.YtabeokminikfdaaGreat
open Go.RowKit
theorem new3 (w : World) (a b c : Obj) : (((w.alloc a).alloc b).alloc c).heap[w.heap.size + 2]? = some c := by
 have := heap_alloc_new ((w.alloc a).alloc b) c
 rwa [sz1, sz1] at this
theorem mid3 (w : World) (a b c : Obj) : (((w.alloc a).alloc b).alloc c).heap[w.heap.size + 1]? = some b :=
 (Below.heap_alloc _ c (w.heap.size + 1) (by rw [sz1, sz1]; omega)).trans (new2 w a b)
theorem cell_al {w : World} {a : Addr} {v : Value} (o : Obj) (h : w.cell? a = some v) : (w.alloc o).cell? a = some v := cell_below h bA
theorem cell_dr {w : World} {a : Addr} {v : Value} (h : w.cell? a = some v) : w.drew.cell? a = some v := cell_below h (Below.drewed (Below.refl _ _))
theorem made_news {W : World} {gm : Nat} {nm : ByteArray} {N : Nat} {vi vf vi' vf' : Value} {b : Nat} {w wk w' : World} {v : Value} {Q : (Addr → Value → Prop) → Value → Prop} (hM : Mk W gm nm vi' vf' N wk) (hS : Stp gm vi vf w vi' vf' wk) (hb : b ≤ wk.heap.size) (hB : Below wk.heap.size wk w')
  (hQ : ∀ R : Addr → Value → Prop, (∀ (g : Nat) (cs : Array Value) (T : TypeId) (i : Nat) (u : Value), w'.heap[g]? = some (.cells cs T (0, 0)) → wk.heap.size ≤ g → cs[i]? = some u → R ⟨g, i, none⟩ u) → (∀ a x, Sees wk (New b gm vi' vf' wk) a x → R a x) → Q R v) : MadeB W gm nm N vi vf b w Q (.returned v) w' := by
 have hS2 := Stp.of_below (gm := gm) (vi := vi') (vf := vf') hB
 refine ⟨v, vi', vf', rfl, hM.after hB, hS.trans hS2, hQ _ (fun g cs T i u hg hg1 hu => sees_at hg ⟨Nat.le_trans hb hg1, hM.safe_new hg1 (Array.getElem?_eq_some_iff.1 hg).1⟩ i u hu) ?_⟩
 exact Sees.mono (fun k hk => (New.step hS2 (Nat.le_refl b) k hk).1) fun k hk => (New.step hS2 (Nat.le_refl b) k hk).2
theorem made_b {W : World} {gm : Nat} {nm : ByteArray} {N : Nat} {vi vf : Value} {w : World} {Q : (Addr → Value → Prop) → Value → Prop} {e : Ending} {w' : World} (h : MadeB W gm nm N vi vf w.heap.size w Q e w') : Made W gm nm N vi vf w Q e w' := h
end Go.Proofs.YtabeokminikfdaaGreat
