import Derived.Test.YtabeokminikfdaaGreatQA2
import Derived.Test.YtabeokminikfdaaGreatQA3
import Derived.Test.YtabeokminikfdaaGreatQA1
set_option linter.all false
set_option maxRecDepth 100000
set_option maxHeartbeats 4000000
namespace Go.Proofs.YtabeokminikfdaaGreat
open Go.RowKit
def El (W : World) (k g off i : Nat) (cs : Array Value) : Prop := cs.size = k ∧ ∀ j, j < k → W.cell? ⟨g, off + i * k + j, none⟩ = cs[j]?
def RowOf {τ : Type} (W : World) (k : Nat) (Q : Nat → Array Value → τ → Prop) (v : Value) (ts : List τ) : Prop :=
 ∃ a c, v = .slice a ts.length c ∧ ts.length ≤ c ∧ c ≤ maxLen ∧ (0 < ts.length → ∃ g off, a = some ⟨g, off, none⟩ ∧ ∀ i (hi : i < ts.length), ∃ cs, El W k g off i cs ∧ Q i cs ts[i])
theorem RowOf.imp {τ τ' : Type} {W : World} {k : Nat} {Q : Nat → Array Value → τ → Prop} {Q' : Nat → Array Value → τ' → Prop} {v : Value} {ts : List τ} {ts' : List τ'} (h : RowOf W k Q v ts) (hl : ts'.length = ts.length) (hQ : ∀ i cs (h1 : i < ts.length) (h2 : i < ts'.length), Q i cs ts[i] → Q' i cs ts'[i]) : RowOf W k Q' v ts' := by
 obtain ⟨a, c, hv, h1, h2, h3⟩ := h
 refine ⟨a, c, by rw [hl]; exact hv, by omega, h2, fun h0 => ?_⟩
 obtain ⟨g, off, ha, hi⟩ := h3 (by omega)
 refine ⟨g, off, ha, fun i hin => ?_⟩
 obtain ⟨cs, he, hq⟩ := hi i (by omega)
 exact ⟨cs, he, hQ i cs (by omega) hin hq⟩
theorem RowOf.val {τ : Type} {W : World} {k : Nat} {Q : Nat → Array Value → τ → Prop} {v : Value} {ts : List τ} (h : RowOf W k Q v ts) : ∃ a c, v = .slice a ts.length c := by
 obtain ⟨a, c, hv, _⟩ := h
 exact ⟨a, c, hv⟩
def EQ (X : EV → Tr → Prop) (_ : Nat) (cs : Array Value) (t : Tr) : Prop := ∃ k : EV, cs = k.cells ∧ X k t
def EvSh : EV → Prop
 | ⟨_, _, _, _, _, vm, _, _, vs, ks, ps⟩ => (∃ a n c, vm = .slice a n c) ∧ (∃ a n c, vs = .slice a n c) ∧ (∃ a n c, ks = .slice a n c) ∧ ∃ a n c, ps = .slice a n c
def OQ (X : EV → Tr → Prop) (_ : Nat) (cs : Array Value) (o : Option Tr) : Prop := ∃ k : EV, cs = k.cells ∧ match o with
 | none => k.kind = 0 ∧ EvSh k
 | some t => k.kind ≠ 0 ∧ X k t
def idt (nm : ByteArray) : Tr := .mk (some nm) []
def AX (W : World) (X : EV → Tr → Prop) (k : EV) (t : Tr) : Prop :=
 EvSh k ∧ ((k.kind = 15 ∧ ∃ d, RowOf W 11 (EQ X) k.kids [d] ∧ t = .mk none [idt k.text, d]) ∨ ((k.kind = 16 ∨ k.kind = 17) ∧ ∃ d, RowOf W 11 (EQ X) k.kids [d] ∧ t = .mk none [d]) ∨ (k.kind ≠ 15 ∧ k.kind ≠ 16 ∧ k.kind ≠ 17 ∧ X k t))
def CallQ (W : World) (X : EV → Tr → Prop) (i : Nat) (cs : Array Value) (t : Tr) : Prop := ∃ k : EV, cs = k.cells ∧ (i = 0 → X k t) ∧ (0 < i → AX W X k t)
def CX (W : World) (X : EV → Tr → Prop) (k : EV) (t : Tr) : Prop :=
 EvSh k ∧ ((k.kind = 21 ∧ ∃ a b, RowOf W 11 (EQ X) k.kids [a, b] ∧ t = .mk none [a, b]) ∨ (k.kind = 22 ∧ ∃ a, RowOf W 11 (EQ X) k.kids [a] ∧ t = .mk none [a]))
def CompQ (W : World) (X : EV → Tr → Prop) (m i : Nat) (cs : Array Value) (t : Tr) : Prop := ∃ k : EV, cs = k.cells ∧ (i < m → X k t) ∧ (m ≤ i → CX W X k t) ∧ (i = m → k.kind = 21)
def PQ (W : World) (X : EV → Tr → Prop) (_ : Nat) (cs : Array Value) (t : Tr) : Prop := ∃ p : PV, cs = p.cells ∧
 (∃ a n c, p.dflt = .slice a n c) ∧
 ((p.kind = 0 ∧ t = idt p.name) ∨ (p.kind = 1 ∧ ∃ d, RowOf W 11 (EQ X) p.dflt [d] ∧ t = .mk none [idt p.name, d]) ∨ ((p.kind = 2 ∨ p.kind = 4) ∧ t = .mk none [idt p.name]) ∨ (p.kind = 3 ∧ t = .mk none []))
def twos : List Tr → List Tr
 | a :: b :: r => .mk none [a, b] :: twos r
 | _ => []
def LitOk (W : World) (e : EV) : Prop := (e.vk = 2 ∧ e.vn = false ∧ ∃ n, Bytes W e.vm n ∧ n ≤ 40) ∨ (e.vk = 3 ∧ e.vb < 2047 * 2 ^ 52) ∨ e.vk = 4 ∨ e.vk = 5
def Plain (kind op : Int) (n : Nat) : Prop :=
 kind = 3 ∨ kind = 4 ∨ (kind = 6 ∧ 19 ≤ op ∧ op ≤ 22 ∧ n = 1) ∨ (kind = 7 ∧ 0 ≤ op ∧ op ≤ 18 ∧ n = 2) ∨ (kind = 8 ∧ n = 2) ∨ (kind = 9 ∧ n = 2) ∨ (kind = 10 ∧ n = 3) ∨ (kind = 11 ∧ n = 2) ∨ (kind = 23 ∧ n = 1)
inductive ShE (W : World) (X : EV → Tr → Prop) : EV → Tr → Prop
 | name (e : EV) : e.kind = 1 → RowOf W 11 (EQ X) e.kids [] → ShE W X e (idt e.text)
 | lit (e : EV) : e.kind = 2 → RowOf W 11 (EQ X) e.kids [] → LitOk W e → ShE W X e (.mk none [])
 | plain (e : EV) (ts : List Tr) : Plain e.kind e.op ts.length → RowOf W 11 (EQ X) e.kids ts → ShE W X e (.mk none ts)
 | dict (e : EV) (ts : List Tr) : e.kind = 5 → ts.length % 2 = 0 → RowOf W 11 (EQ X) e.kids ts → ShE W X e (.mk none (twos ts))
 | slice (e : EV) (t : Tr) (o1 o2 o3 : Option Tr) : e.kind = 12 → RowOf W 11 (OQ X) e.kids [some t, o1, o2, o3] → ShE W X e (.mk none (t :: (o1.toList ++ (o2.toList ++ (o3.toList ++ [])))))
 | dot (e : EV) (t : Tr) : e.kind = 13 → RowOf W 11 (EQ X) e.kids [t] → ShE W X e (.mk none [t, idt e.text])
 | call (e : EV) (t : Tr) (ts : List Tr) : e.kind = 14 → RowOf W 11 (CallQ W X) e.kids (t :: ts) → ShE W X e (.mk none (t :: (ts ++ [])))
 | lambda (e : EV) (ps : List Tr) (t : Tr) : e.kind = 18 → RowOf W 3 (PQ W X) e.params ps → RowOf W 11 (EQ X) e.kids [t] → ShE W X e (.mk none (ps ++ [t]))
 | listOf (e : EV) (t : Tr) (ts : List Tr) : e.kind = 19 → 0 < ts.length → RowOf W 11 (CompQ W X 1) e.kids (t :: ts) → ShE W X e (.mk none (t :: (ts ++ [])))
 | dictOf (e : EV) (a b : Tr) (ts : List Tr) : e.kind = 20 → 0 < ts.length → RowOf W 11 (CompQ W X 2) e.kids (a :: b :: ts) → ShE W X e (.mk none (.mk none [a, b] :: (ts ++ [])))
def SvSh : SV → Prop
 | ⟨_, _, _, ns, es, ps, bs, ls⟩ => (∃ a n c, ns = .slice a n c) ∧ (∃ a n c, es = .slice a n c) ∧ (∃ a n c, ps = .slice a n c) ∧ (∃ a n c, bs = .slice a n c) ∧ ∃ a n c, ls = .slice a n c
def GE (W : World) : Nat → EV → Tr → Prop
 | 0 => fun _ _ => False
 | d + 1 => fun e t => ShE W (GE W d) e t ∧ EvSh e
theorem ShE.kind {W : World} {X : EV → Tr → Prop} {e : EV} {t : Tr} (h : ShE W X e t) : e.kind ≠ 0 ∧ e.kind ≠ 15 ∧ e.kind ≠ 16 ∧ e.kind ≠ 17 ∧ e.kind ≠ 21 ∧ e.kind ≠ 22 := by
 cases h with
 | plain ts hp hr => unfold Plain at hp; omega
 | _ => omega
def SQ (S : SV → Tr → Prop) (_ : Nat) (cs : Array Value) (t : Tr) : Prop := ∃ k : SV, cs = k.cells ∧ S k t
inductive ShS (ld : Bool) (W : World) (X : EV → Tr → Prop) (S : SV → Tr → Prop) : SV → Tr → Prop
 | expr (s : SV) (t : Tr) : s.kind = 0 → RowOf W 11 (EQ X) s.exprs [t] → ShS ld W X S s (.mk none [t])
 | assign (s : SV) (a b : Tr) : (s.kind = 1 ∨ (s.kind = 2 ∧ 0 ≤ s.op ∧ s.op ≤ 10)) → RowOf W 11 (EQ X) s.exprs [a, b] → ShS ld W X S s (.mk none [a, b])
 | def_ (s : SV) (ps bs : List Tr) : s.kind = 3 → RowOf W 11 (EQ X) s.exprs [] → RowOf W 3 (PQ W X) s.params ps → RowOf W 8 (SQ S) s.body bs → 0 < bs.length → ShS ld W X S s (.mk none (idt s.text :: (ps ++ (bs ++ []))))
 | if_ (s : SV) (t : Tr) (bs es : List Tr) : s.kind = 4 → RowOf W 11 (EQ X) s.exprs [t] → RowOf W 8 (SQ S) s.body bs → 0 < bs.length → RowOf W 8 (SQ S) s.els es → ShS ld W X S s (.mk none (t :: (bs ++ (es ++ []))))
 | for_ (s : SV) (a b : Tr) (bs : List Tr) : s.kind = 5 → RowOf W 11 (EQ X) s.exprs [a, b] → RowOf W 8 (SQ S) s.body bs → 0 < bs.length → ShS ld W X S s (.mk none (a :: b :: (bs ++ [])))
 | while_ (s : SV) (t : Tr) (bs : List Tr) : s.kind = 6 → RowOf W 11 (EQ X) s.exprs [t] → RowOf W 8 (SQ S) s.body bs → 0 < bs.length → ShS ld W X S s (.mk none (t :: (bs ++ [])))
 | ret0 (s : SV) : s.kind = 7 → RowOf W 11 (EQ X) s.exprs [] → ShS ld W X S s (.mk none [])
 | ret1 (s : SV) (t : Tr) : s.kind = 7 → RowOf W 11 (EQ X) s.exprs [t] → ShS ld W X S s (.mk none [t])
 | branch (s : SV) : (s.kind = 8 ∨ s.kind = 9 ∨ s.kind = 10) → RowOf W 11 (EQ X) s.exprs [] → ShS ld W X S s (.mk none [])
 | load (s : SV) : s.kind = 11 → ld = true → ShS ld W X S s (.mk none [])
def GS (ld : Bool) (W : World) : Nat → SV → Tr → Prop
 | 0 => fun _ _ => False
 | d + 1 => fun s t => ShS ld W (GE W d) (GS ld W d) s t ∧ SvSh s
end Go.Proofs.YtabeokminikfdaaGreat
namespace Go.Proofs.YtabeokminikfdaaGreat
open Go.RowKit
structure FW (gf : Nat) (n : Int) (w w' : World) : Prop where
 left : Left w' gf n
 size : w.heap.size ≤ w'.heap.size
 old : ∀ k, k < w.heap.size → k ≠ gf → w'.heap[k]? = w.heap[k]?
 os : w'.os = w.os
 tape : w'.tape = w.tape
 output : w'.output = w.output
theorem FW.trans {gf : Nat} {n n' : Int} {a b c : World} (h : FW gf n a b) (h' : FW gf n' b c) : FW gf n' a c :=
 ⟨h'.left, Nat.le_trans h.size h'.size, fun k hk hn => (h'.old k (Nat.lt_of_lt_of_le hk h.size) hn).trans (h.old k hk hn), h'.os.trans h.os, h'.tape.trans h.tape, h'.output.trans h.output⟩
theorem FW.below {gf : Nat} {n : Int} {W w w' : World} (hb : Below W.heap.size W w) (hg : W.heap.size ≤ gf) (h : FW gf n w w') : Below W.heap.size W w' :=
 ⟨h.os.trans hb.os, h.tape.trans hb.tape, h.output.trans hb.output, Nat.le_trans hb.size h.size, fun k hk => (h.old k (Nat.lt_of_lt_of_le hk hb.size) (by omega)).trans (hb.block k hk)⟩
theorem Left.lt {w : World} {g : Nat} {n : Int} (h : Left w g n) : g < w.heap.size := (Array.getElem?_eq_some_iff.1 h).1
theorem FW.refl {gf : Nat} {n : Int} {w : World} (h : Left w gf n) : FW gf n w w := ⟨h, Nat.le_refl _, fun _ _ _ => rfl, rfl, rfl, rfl⟩
theorem FW.after {gf : Nat} {n : Int} {w w1 w2 : World} (hb : Below w.heap.size w w1) (h : FW gf n w1 w2) : FW gf n w w2 :=
 ⟨h.left, Nat.le_trans hb.size h.size, fun k hk hn => (h.old k (Nat.lt_of_lt_of_le hk hb.size) hn).trans (hb.block k hk), h.os.trans hb.os, h.tape.trans hb.tape, h.output.trans hb.output⟩
theorem Left.below {w w' : World} {g : Nat} {n : Int} (h : Left w g n) (hb : Below w.heap.size w w') : Left w' g n := (hb.block g h.lt).trans h
def FitPost (gf : Nat) (n : Int) (Q : Int → Prop) (w : World) (e : Ending) (w' : World) : Prop :=
 ∃ b n', e = .returned (.bool b) ∧ FW gf n' w w' ∧ (b = true → 0 ≤ n' ∧ n' ≤ n ∧ Q (n - n'))
theorem fit_no {gf : Nat} {n n' : Int} {Q : Int → Prop} {w w' : World} {e : Ending} (he : e = .returned (.bool false)) (h : FW gf n' w w') : FitPost gf n Q w e w' := ⟨false, n', he, h, fun h => by cases h⟩
structure FitPre (W : World) (gf : Nat) (n : Int) (w : World) : Prop where
 bel : Below W.heap.size W w
 low : W.heap.size ≤ gf
 left : Left w gf n
 n0 : 0 ≤ n
 n1 : n ≤ 300
theorem FitPre.next {W : World} {gf : Nat} {n n' : Int} {w w' : World} (h : FitPre W gf n w) (h' : FW gf n' w w') (h0 : 0 ≤ n') (h1 : n' ≤ n) : FitPre W gf n' w' :=
 ⟨h'.below h.bel h.low, h.low, h'.left, h0, by have := h.n1; omega⟩
theorem FitPre.after {W : World} {gf : Nat} {n : Int} {w w' : World} (h : FitPre W gf n w) (hb : Below w.heap.size w w') : FitPre W gf n w' :=
 ⟨h.bel.trans (hb.mono h.bel.size), h.low, h.left.below hb, h.n0, h.n1⟩
theorem SlAt.val {w : World} {k : Nat} {v : Value} {n : Nat} {P : Nat → Array Value → Prop} (h : SlAt w k v n P) : ∃ a c, v = .slice a n c := by
 obtain ⟨a, c, hv, _⟩ := h
 exact ⟨a, c, hv⟩
theorem SE.sh : ∀ {d : Nat} {w : World} {e : EV}, SE d w e → EvSh e
 | _ + 1, _, ⟨_, _, _, _, _, _, _, _, _, _, _⟩, ⟨_, _, _, _, _, _, ⟨n7, h7⟩, ⟨a8, n8, c8, h8, _⟩, ⟨n9, h9⟩, ⟨n10, h10⟩⟩ => by
  obtain ⟨a7, c7, h7⟩ := h7.val
  obtain ⟨a9, c9, h9⟩ := h9.val
  obtain ⟨a10, c10, h10⟩ := h10.val
  exact ⟨⟨a7, n7, c7, h7⟩, ⟨a8, n8, c8, h8⟩, ⟨a9, n9, c9, h9⟩, ⟨a10, n10, c10, h10⟩⟩
def FitE (W : World) (X : EV → Tr → Prop) (Y : EV → Prop) : Prop := ∀ (e : EV) (gf : Nat) (n deep : Int) (w : World), Y e → FitPre W gf n w → 0 ≤ deep → deep ≤ 1000 →
 Calls Tryz.prog 24 #[.pointer (some ⟨gf, 0, none⟩), e.val, .int .i64 deep] w (FitPost gf n (fun m => ∃ t, X e t ∧ (t.size : Int) + 1 ≤ 3 * m) w)
theorem ev_cells {W w : World} {g off i : Nat} {x : EV} (hb : Below W.heap.size W w) (h : ∀ j, j < 11 → W.cell? ⟨g, off + i * 11 + j, none⟩ = x.cells[j]?) :
  w.cell? ⟨g, off + i * 11, none⟩ = some (.int .i64 x.kind) ∧ w.cell? ⟨g, off + i * 11 + 1, none⟩ = some (.int .i64 x.op) ∧ w.cell? ⟨g, off + i * 11 + 2, none⟩ = some (.string x.text) ∧ w.cell? ⟨g, off + i * 11 + 3, none⟩ = some (.int .i64 x.vk) ∧ w.cell? ⟨g, off + i * 11 + 4, none⟩ = some (.bool x.vn) ∧ w.cell? ⟨g, off + i * 11 + 5, none⟩ = some x.vm ∧ w.cell? ⟨g, off + i * 11 + 6, none⟩ = some (.int .u64 x.vb) ∧ w.cell? ⟨g, off + i * 11 + 7, none⟩ = some (.string x.vt) ∧ w.cell? ⟨g, off + i * 11 + 8, none⟩ = some x.vkids ∧ w.cell? ⟨g, off + i * 11 + 9, none⟩ = some x.kids ∧ w.cell? ⟨g, off + i * 11 + 10, none⟩ = some x.params := by
 have cell : ∀ j (u : Value), j < 11 → x.cells[j]? = some u → w.cell? ⟨g, off + i * 11 + j, none⟩ = some u := fun j u hj hu => by
  have h1 := (h j hj).trans hu
  exact (hb.cell (p := ⟨g, off + i * 11 + j, none⟩) (World.block_lt_of_cell? W _ h1)).trans h1
 exact ⟨cell 0 _ (by decide) rfl, cell 1 _ (by decide) rfl, cell 2 _ (by decide) rfl, cell 3 _ (by decide) rfl, cell 4 _ (by decide) rfl, cell 5 _ (by decide) rfl, cell 6 _ (by decide) rfl, cell 7 _ (by decide) rfl, cell 8 _ (by decide) rfl, cell 9 _ (by decide) rfl, cell 10 _ (by decide) rfl⟩
def Sofar (W : World) (X : EV → Tr → Prop) (a : Option Addr) (gf : Nat) (n : Int) (w : World) (k : Nat) (wr : World) : Prop :=
 ∃ (n' : Int) (ts : List Tr), ts.length = k ∧ FW gf n' w wr ∧ 0 ≤ n' ∧ n' ≤ n ∧ (sizes ts : Int) + ts.length ≤ 3 * (n - n') ∧ ∀ g off, a = some ⟨g, off, none⟩ → ∀ i (hi : i < ts.length), ∃ cs, El W 11 g off i cs ∧ EQ X i cs ts[i]
theorem f18_any (W : World) (X : EV → Tr → Prop) (Y : EV → Prop) (hF : FitE W X Y) (hY : ∀ e, Y e → EvSh e) (v : Value) (len : Nat) (gf : Nat) (n deep : Int) (w : World) (hv : SlAt W 11 v len fun _ cs => ∃ k : EV, cs = k.cells ∧ Y k) (hp : FitPre W gf n w) (h0 : 0 ≤ deep) (h1 : deep ≤ 1000) :
  Calls Tryz.prog 18 #[.pointer (some ⟨gf, 0, none⟩), v, .int .i64 deep] w (FitPost gf n (fun m => ∃ ts, ts.length = len ∧ RowOf W 11 (EQ X) v ts ∧ (sizes ts : Int) + ts.length ≤ 3 * m) w) := by
 obtain ⟨a, c, rfl, hc, hcm, hrow⟩ := hv
 have hlen : len ≤ 9223372036854775807 := by unfold maxLen at hcm; omega
 have HF := Lib.hid hF
 have HP := Lib.hid hp
 have HR := Lib.hid hrow
 have HC := Lib.hid hc
 have HM := Lib.hid hcm
 have HY := Lib.hid hY
 clear hY
 clear hF hp hrow hc hcm
 go_enter Tryz.func18, Tryz.ntmps18
 go_wp2
 go_loopw [11] (fun i wr => ∃ k : Nat, k ≤ len ∧ i = .int .i64 k ∧ Sofar W X a gf n w k wr) (fun i _ => len - (intOf i).toNat)
 case atStart => exact ⟨0, Nat.zero_le _, rfl, n, [], rfl, .refl HP.out.left, HP.out.n0, Int.le_refl _, by simp [sizes], fun _ _ _ i hi => absurd hi (Nat.not_lt_zero i)⟩
 case round =>
  obtain ⟨k, hk, rfl, hS⟩ := hrel
  have HS := Lib.hid hS
  clear hS
  by_cases hlt : k < len
  ·have hk' : k < len := by omega
   obtain ⟨g, off, rfl, hel⟩ := HR.out (Nat.lt_of_le_of_lt (Nat.zero_le k) hk')
   obtain ⟨cs, hsz, hcs, x, rfl, hx⟩ := hel k hk'
   obtain ⟨n', ts, hl, hw, hn0, hn1, hz, hall⟩ := HS.out
   have hb := hw.below HP.out.bel HP.out.low
   have hsh := HY.out x hx
   obtain ⟨xk, xo, xt, vk, vn, vm, vb, vt, vs, ks, ps⟩ := x
   obtain ⟨⟨a1, n1, m1, rfl⟩, ⟨a2, n2, m2, rfl⟩, ⟨a3, n3, m3, rfl⟩, ⟨a4, n4, m4, rfl⟩⟩ := hsh
   obtain ⟨c0, c1, c2, c3, c4, c5, c6, c7, c8, c9, c10⟩ := ev_cells hb hcs
   have HS2 := Lib.hid hall
   have HX := Lib.hid hx
   have HL := Lib.hid hl
   have HPk := Lib.hid (HP.out.next hw hn0 hn1)
   have HW := Lib.hid hw
   clear hel hall hx hl hw hb hsz HR HS
   dsimp only at c0 c1 c2 c3 c4 c5 c6 c7 c8 c9 c10
   have HE := Lib.hid (hcs : ∀ j, j < 11 → W.cell? ⟨g, off + k * 11 + j, none⟩ = _)
   clear hcs
   go_wp2_with fail
   refine (HF.out _ gf n' deep _ HX.out (HPk.out.after bA) h0 h1).mono ?_
   rintro e w2 ⟨b, n2, rfl, hw2, hq⟩
   have HW2 := Lib.hid (HW.out.trans (FW.after bA hw2))
   have HQ := Lib.hid hq
   clear hw2 hq
   cases b
   ·go_wp2
    go_ret
    exact fit_no rfl HW2.out
   ·have HQ2 := Lib.hid (HQ.out rfl)
    clear HQ
    go_wp2
    go_roundw
    case rel =>
     obtain ⟨q0, q1, t, ht, hts⟩ := HQ2.out
     refine ⟨k + 1, by omega, by go_num, n2, ts ++ [t], by simp [HL.out], HW2.out, q0, by omega, by rw [sizes_append, List.length_append]; simp only [sizes, List.length_cons, List.length_nil]; omega, ?_⟩
     intro g' off' ha i hi
     cases ha
     by_cases hik : i < ts.length
     ·obtain ⟨cs, hcs, hq⟩ := HS2.out g off rfl i hik
      exact ⟨cs, hcs, by rw [List.getElem_append_left hik]; exact hq⟩
     ·have hi' : i = k := by simp [HL.out] at hi hik; omega
      subst hi'
      refine ⟨_, ⟨rfl, HE.out⟩, ?_⟩
      rw [List.getElem_append_right (by omega)]
      exact ⟨_, rfl, by simpa using ht⟩
    case measure =>
     simp [intOf]
     omega
  ·go_wp2
   go_ret
   obtain rfl : k = len := by omega
   obtain ⟨n', ts, hl, hw, hn0, hn1, hz, hall⟩ := HS.out
   refine ⟨true, n', rfl, hw, fun _ => ⟨hn0, hn1, ts, hl, ?_, hz⟩⟩
   refine ⟨a, c, by rw [hl], by rw [hl]; exact HC.out, HM.out, fun h => ?_⟩
   obtain ⟨g, off, ha, _⟩ := HR.out (by omega)
   exact ⟨g, off, ha, hall g off ha⟩
end Go.Proofs.YtabeokminikfdaaGreat
