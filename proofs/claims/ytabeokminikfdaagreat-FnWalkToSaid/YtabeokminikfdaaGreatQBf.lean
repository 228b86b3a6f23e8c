import Derived.Test.YtabeokminikfdaaGreatQBc
import Derived.Test.YtabeokminikfdaaGreatQBd
import Derived.Test.YtabeokminikfdaaGreatQBe
import Derived.Test.YtabeokminikfdaaGreatQA1
set_option linter.all false
namespace Go.Proofs.YtabeokminikfdaaGreat
open Go.RowKit
theorem FW.of_below {gf : Nat} {n : Int} {w w' : World} (hl : Left w gf n) (hb : Below w.heap.size w w') : FW gf n w w' :=
 ⟨hl.below hb, hb.size, fun k hk _ => hb.block k hk, hb.os, hb.tape, hb.output⟩
theorem FW.set {gf : Nat} {n m : Int} {w : World} (hl : Left w gf n) : FW gf m w (w.setCell ⟨gf, 0, none⟩ (.int .i64 m)) :=
 ⟨Joins.block_setCell hl (i := 0) _, by simp [World.setCell], fun k _ hn => Below.heap_setCell w ⟨gf, 0, none⟩ _ k hn, rfl, rfl, rfl⟩
def TkPost (gf : Nat) (n deep : Int) (w : World) (e : Ending) (w' : World) : Prop := ∃ b, e = .returned (.bool b) ∧ FW gf (n - 1) w w' ∧ (b = true → 1 ≤ n ∧ deep ≤ 24)
theorem f12_fw (W : World) (gf : Nat) (n deep : Int) (w : World) (h : FitPre W gf n w) : Calls Tryz.prog 12 #[.pointer (some ⟨gf, 0, none⟩), .int .i64 deep] w (TkPost gf n deep w) := by
 have h0 := h.n0
 have h1 := h.n1
 refine (f12_any gf n deep (by omega) (by omega) w h.left).mono ?_
 rintro e w' ⟨rfl, rfl⟩
 refine ⟨_, rfl, FW.set h.left, fun hb => ?_⟩
 unfold tk at hb
 simpa using hb
theorem FW.box {gf : Nat} {n : Int} {w w' : World} {cs : Array Value} {T : TypeId} (h : FW gf n (w.alloc (.cells cs T)) w') (hne : ¬ w.heap.size = gf) (j : Nat) (u : Value) (hu : cs[j]? = some u) : w'.cell? ⟨w.heap.size, j, none⟩ = some u := by
 have h1 : w'.heap[w.heap.size]? = some (.cells cs T (0, 0)) := (h.old w.heap.size (by simp) hne).trans (heap_alloc_new w _)
 simp [World.cell?, h1, hu]
theorem Left.alloc {w : World} {g : Nat} {n : Int} (h : Left w g n) (o : Obj) : Left (w.alloc o) g n := h.below bA
theorem ev_cells0 {W w : World} {g off : Nat} {x : EV} (hb : Below W.heap.size W w) (h : ∀ j, j < 11 → W.cell? ⟨g, off + 0 * 11 + j, none⟩ = x.cells[j]?) :
  w.cell? ⟨g, off, none⟩ = some (.int .i64 x.kind) ∧ w.cell? ⟨g, off + 1, none⟩ = some (.int .i64 x.op) ∧ w.cell? ⟨g, off + 2, none⟩ = some (.string x.text) ∧ w.cell? ⟨g, off + 3, none⟩ = some (.int .i64 x.vk) ∧ w.cell? ⟨g, off + 4, none⟩ = some (.bool x.vn) ∧ w.cell? ⟨g, off + 5, none⟩ = some x.vm ∧ w.cell? ⟨g, off + 6, none⟩ = some (.int .u64 x.vb) ∧ w.cell? ⟨g, off + 7, none⟩ = some (.string x.vt) ∧ w.cell? ⟨g, off + 8, none⟩ = some x.vkids ∧ w.cell? ⟨g, off + 9, none⟩ = some x.kids ∧ w.cell? ⟨g, off + 10, none⟩ = some x.params := by
 have := ev_cells hb h
 simpa only [Nat.zero_mul, Nat.add_zero] using this
theorem ev_cells1 {W w : World} {g off : Nat} {x : EV} (hb : Below W.heap.size W w) (h : ∀ j, j < 11 → W.cell? ⟨g, off + 1 * 11 + j, none⟩ = x.cells[j]?) :
  w.cell? ⟨g, off + 11, none⟩ = some (.int .i64 x.kind) ∧ w.cell? ⟨g, off + 11 + 1, none⟩ = some (.int .i64 x.op) ∧ w.cell? ⟨g, off + 11 + 2, none⟩ = some (.string x.text) ∧ w.cell? ⟨g, off + 11 + 3, none⟩ = some (.int .i64 x.vk) ∧ w.cell? ⟨g, off + 11 + 4, none⟩ = some (.bool x.vn) ∧ w.cell? ⟨g, off + 11 + 5, none⟩ = some x.vm ∧ w.cell? ⟨g, off + 11 + 6, none⟩ = some (.int .u64 x.vb) ∧ w.cell? ⟨g, off + 11 + 7, none⟩ = some (.string x.vt) ∧ w.cell? ⟨g, off + 11 + 8, none⟩ = some x.vkids ∧ w.cell? ⟨g, off + 11 + 9, none⟩ = some x.kids ∧ w.cell? ⟨g, off + 11 + 10, none⟩ = some x.params := by
 have := ev_cells hb h
 simpa only [Nat.one_mul] using this
theorem FitPre.next' {W : World} {gf : Nat} {n n' : Int} {w0 w w' : World} (h : FitPre W gf n w) (h' : FW gf n' w0 w') (hb : Below W.heap.size W w') (h0 : 0 ≤ n') (h1 : n' ≤ n) : FitPre W gf n' w' :=
 ⟨hb, h.low, h'.left, h0, by have := h.n1; omega⟩
def Elems {τ : Type} (W : World) (k : Nat) (Q : Nat → Array Value → τ → Prop) (a : Option Addr) (ts : List τ) : Prop := ∀ g off, a = some ⟨g, off, none⟩ → ∀ i (hi : i < ts.length), ∃ cs, El W k g off i cs ∧ Q i cs ts[i]
theorem Elems.nil {τ : Type} (W : World) (k : Nat) (Q : Nat → Array Value → τ → Prop) (a : Option Addr) : Elems W k Q a [] := fun _ _ _ i hi => absurd hi (Nat.not_lt_zero i)
theorem Elems.snoc {τ : Type} {W : World} {k : Nat} {Q : Nat → Array Value → τ → Prop} {g off : Nat} {ts : List τ} {t : τ} {i : Nat} {cs : Array Value} (h : Elems W k Q (some ⟨g, off, none⟩) ts) (hl : ts.length = i) (he : El W k g off i cs) (hq : Q i cs t) : Elems W k Q (some ⟨g, off, none⟩) (ts ++ [t]) := by
 subst hl
 intro g' off' ha j hj
 by_cases hjk : j < ts.length
 ·obtain ⟨cs', h1, h2⟩ := h g' off' ha j hjk
  exact ⟨cs', h1, by rw [List.getElem_append_left hjk]; exact h2⟩
 ·cases ha
  have hj' : j = ts.length := by simp at hj; omega
  subst hj'
  exact ⟨cs, he, by rw [List.getElem_append_right (Nat.le_refl _)]; simpa using hq⟩
theorem Elems.row {τ : Type} {W : World} {k : Nat} {Q : Nat → Array Value → τ → Prop} {a : Option Addr} {c len : Nat} {ts : List τ} (h : Elems W k Q a ts) (hl : ts.length = len) (h1 : len ≤ c) (h2 : c ≤ maxLen) (h3 : 0 < len → ∃ g off, a = some ⟨g, off, none⟩) : RowOf W k Q (.slice a len c) ts := by
 subst hl
 refine ⟨a, c, rfl, h1, h2, fun h0 => ?_⟩
 obtain ⟨g, off, ha⟩ := h3 h0
 exact ⟨g, off, ha, h g off ha⟩
def Sofar2 (W : World) (K : Nat) (Q : Nat → Array Value → Tr → Prop) (a : Option Addr) (gf : Nat) (n : Int) (w : World) (k : Nat) (wr : World) : Prop :=
 ∃ (n' : Int) (ts : List Tr), ts.length = k ∧ FW gf n' w wr ∧ 0 ≤ n' ∧ n' ≤ n ∧ (sizes ts : Int) + ts.length ≤ 3 * (n - n') ∧ Elems W K Q a ts
theorem Sofar2.start {W : World} {K : Nat} {Q : Nat → Array Value → Tr → Prop} {a : Option Addr} {gf : Nat} {n : Int} {w : World} (h : FitPre W gf n w) : Sofar2 W K Q a gf n w 0 w :=
 ⟨n, [], rfl, .refl h.left, h.n0, Int.le_refl _, by simp [sizes], Elems.nil W K Q a⟩
theorem Sofar2.snoc {W : World} {K : Nat} {Q : Nat → Array Value → Tr → Prop} {g off : Nat} {gf : Nat} {n n' n2 : Int} {w w2 : World} {k : Nat} {ts : List Tr} {t : Tr} {cs : Array Value} (hl : ts.length = k) (hz : (sizes ts : Int) + ts.length ≤ 3 * (n - n')) (hn : n' ≤ n) (hE : Elems W K Q (some ⟨g, off, none⟩) ts) (he : El W K g off k cs) (hq : Q k cs t) (hw : FW gf n2 w w2) (h0 : 0 ≤ n2) (h1 : n2 ≤ n') (ht : (t.size : Int) + 1 ≤ 3 * (n' - n2)) : Sofar2 W K Q (some ⟨g, off, none⟩) gf n w (k + 1) w2 :=
 ⟨n2, ts ++ [t], by simp [hl], hw, h0, by omega, by rw [sizes_append, List.length_append]; simp only [sizes, List.length_cons, List.length_nil]; omega, hE.snoc hl he hq⟩
theorem Sofar2.done {W : World} {K : Nat} {Q : Nat → Array Value → Tr → Prop} {a : Option Addr} {gf : Nat} {n : Int} {w wr : World} {len c : Nat} (h : Sofar2 W K Q a gf n w len wr) (h1 : len ≤ c) (h2 : c ≤ maxLen) (h3 : 0 < len → ∃ g off, a = some ⟨g, off, none⟩) : FitPost gf n (fun m => ∃ ts, ts.length = len ∧ RowOf W K Q (.slice a len c) ts ∧ (sizes ts : Int) + ts.length ≤ 3 * m) w (.returned (.bool true)) wr := by
 obtain ⟨n', ts, hl, hw, hn0, hn1, hz, hE⟩ := h
 exact ⟨true, n', rfl, hw, fun _ => ⟨hn0, hn1, ts, hl, hE.row hl h1 h2 h3, hz⟩⟩
theorem SlAt.one {W : World} {k : Nat} {v : Value} {Q : Nat → Array Value → Tr → Prop} {P : Nat → Array Value → Prop} {n : Nat} {cs : Array Value} {t : Tr} {g off c : Nat} (hv : v = .slice (some ⟨g, off, none⟩) n c) (h : SlAt W k v n P) (hn : n = 1) (he : El W k g off 0 cs) (hq : Q 0 cs t) : RowOf W k Q v [t] := by
 obtain ⟨a, c', hv', h1, h2, h3⟩ := h
 subst hn
 rw [hv] at hv'
 cases hv'
 refine ⟨_, c, hv, h1, h2, fun _ => ⟨g, off, rfl, fun i hi => ?_⟩⟩
 obtain rfl : i = 0 := by simp at hi; exact hi
 exact ⟨cs, he, hq⟩
structure YS (W : World) (Y : EV → Prop) : Prop where
 sh : ∀ e, Y e → EvSh e
 text : ∀ e, Y e → e.text.size ≤ maxLen
 kids : ∀ e, Y e → ∃ n, SlAt W 11 e.kids n fun _ cs => ∃ k : EV, cs = k.cells ∧ Y k
 params : ∀ e, Y e → ∃ n, SlAt W 3 e.params n fun _ cs => ∃ p : PV, cs = p.cells ∧ p.name.size ≤ maxLen ∧ ∃ m, SlAt W 11 p.dflt m fun _ cs' => ∃ k : EV, cs' = k.cells ∧ Y k
theorem SlAt.mono {W : World} {k : Nat} {v : Value} {n : Nat} {P Q : Nat → Array Value → Prop} (h : SlAt W k v n P) (hPQ : ∀ i cs, i < n → P i cs → Q i cs) : SlAt W k v n Q := SlAt.imp h (Below.refl _ _) hPQ
theorem SE.up (W : World) : ∀ (d : Nat) (e : EV), SE d W e → SE (d + 1) W e
 | d + 1, _, ⟨h1, h2, h3, h4, h5, h6, h7, h8, ⟨n9, h9⟩, ⟨n10, h10⟩⟩ =>
  ⟨h1, h2, h3, h4, h5, h6, h7, h8, ⟨n9, h9.mono fun _ _ _ ⟨k, hk, hs⟩ => ⟨k, hk, SE.up W d k hs⟩⟩, ⟨n10, h10.mono fun _ _ _ ⟨p, hp, g1, g2, m, g3⟩ => ⟨p, hp, g1, g2, m, g3.mono fun _ _ _ ⟨k, hk, hs⟩ => ⟨k, hk, SE.up W d k hs⟩⟩⟩⟩
theorem ys (W : World) : ∀ d, YS W (SE d W)
 | 0 => ⟨fun _ h => h.elim, fun _ h => h.elim, fun _ h => h.elim, fun _ h => h.elim⟩
 | d + 1 => ⟨fun _ h => h.sh, fun _ h => h.2.2.1, fun _ ⟨_, _, _, _, _, _, _, _, ⟨n9, h9⟩, _⟩ => ⟨n9, h9.mono fun _ _ _ ⟨k, hk, hs⟩ => ⟨k, hk, SE.up W d k hs⟩⟩,
  fun _ ⟨_, _, _, _, _, _, _, _, _, ⟨n10, h10⟩⟩ => ⟨n10, h10.mono fun _ _ _ ⟨p, hp, _, g2, m, g3⟩ => ⟨p, hp, g2, m, g3.mono fun _ _ _ ⟨k, hk, hs⟩ => ⟨k, hk, SE.up W d k hs⟩⟩⟩⟩
end Go.Proofs.YtabeokminikfdaaGreat
