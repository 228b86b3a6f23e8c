import Derived.Test.YtabeokminikfdaaGreatQA2
import Derived.Test.YtabeokminikfdaaGreatQA1
import Derived.Laws.AppendOwn
import Derived.Lib.SmallJoins
import Derived.Deep.RegionLaw
import Derived.Deep.AppendLies
set_option linter.all false
set_option maxRecDepth 100000
set_option maxHeartbeats 4000000
namespace Go.Proofs.YtabeokminikfdaaGreat
open Go.RowKit
def One (w : World) (b : Nat) (v : Value) (t : TypeId) : Prop := w.heap[b]? = some (.cells #[v] t (0, 0))
theorem One.cell {w : World} {b : Nat} {v : Value} {t : TypeId} (h : One w b v t) : w.cell? ⟨b, 0, none⟩ = some v := by simp [World.cell?, show w.heap[b]? = _ from h]
theorem One.free {w : World} {b : Nat} {v : Value} {t : TypeId} (h : One w b v t) (i : Nat) : w.frozen? ⟨b, i, none⟩ = false := by simp [World.frozen?, show w.heap[b]? = _ from h]
theorem One.lt {w : World} {b : Nat} {v : Value} {t : TypeId} (h : One w b v t) : b < w.heap.size := (Array.getElem?_eq_some_iff.1 h).1
theorem One.set {w : World} {b : Nat} {v : Value} {t : TypeId} (h : One w b v t) (u : Value) : One (w.setCell ⟨b, 0, none⟩ u) b u t := Joins.block_setCell h (i := 0) _
theorem One.other {w : World} {b b' : Nat} {v : Value} {t : TypeId} (h : One w b v t) (hne : b ≠ b') (i : Nat) (u : Value) : One (w.setCell ⟨b', i, none⟩ u) b v t := (Below.heap_setCell w ⟨b', i, none⟩ u b hne).trans h
structure CL (w : World) (B be bn bl bf : Nat) (few : Int) (v : Value) (s : St) : Prop where
 e : One w be (.int .i64 s.e) 3
 n : One w bn (.int .i64 s.n) 3
 l : One w bl v 30
 f : One w bf (.int .i64 few) 3
 row : w.ownsRow B 9 1 v s.names.length (s.names.map Value.string)
 ne : be ≠ bn ∧ be ≠ bl ∧ be ≠ bf ∧ bn ≠ bl ∧ bn ≠ bf ∧ bl ≠ bf
 low : be < B ∧ bn < B ∧ bl < B ∧ bf < B
theorem f16_nil (B be bn bl bf : Nat) (few : Int) (v : Value) (s : St) (hs : s.e ≤ 1000000) (w : World) (h : CL w B be bn bl bf few v s) :
  Calls Tryz.prog 16 #[.nilIface, .pointer (some ⟨be, 0, none⟩), .pointer (some ⟨bn, 0, none⟩), .pointer (some ⟨bl, 0, none⟩), .pointer (some ⟨bf, 0, none⟩)] w fun e w' => e = .returned (.bool false) ∧ w' = w.setCell ⟨be, 0, none⟩ (.int .i64 ((s.e + 1 : Nat) : Int)) := by
 have c0 := h.e.cell
 have f0 := h.e.free
 clear h
 go_enter Tryz.func16, Tryz.ntmps16
 go_wp2
 go_ret
 exact ⟨rfl, rfl⟩
theorem CL.ended {w : World} {B be bn bl bf : Nat} {few : Int} {v : Value} {s : St} (h : CL w B be bn bl bf few v s) : CL (w.setCell ⟨be, 0, none⟩ (.int .i64 ((s.e + 1 : Nat) : Int))) B be bn bl bf few v ⟨s.names, s.n, s.e + 1⟩ := by
 obtain ⟨n1, n2, n3, n4, n5, n6⟩ := h.ne
 exact ⟨h.e.set _, h.n.other n1.symm 0 _, h.l.other n2.symm 0 _, h.f.other n3.symm 0 _, own_setOld h.row h.low.1 _, h.ne, h.low⟩
def goes (few : Int) (n : Nat) : Bool := decide (few < 0) || decide ((n : Int) ≤ few)
theorem f16_plain (T : TypeId) (p : Value) (hT : ∀ w, (Instr.typeAssert (.iface T p) 52 53 true).run Tryz.prog w = .ok (.tuple #[.pointer none, .bool false]) w) (B be bn bl bf : Nat) (few : Int) (v : Value) (s : St) (hs : s.n ≤ 1000000) (w : World) (h : CL w B be bn bl bf few v s) :
  Calls Tryz.prog 16 #[.iface T p, .pointer (some ⟨be, 0, none⟩), .pointer (some ⟨bn, 0, none⟩), .pointer (some ⟨bl, 0, none⟩), .pointer (some ⟨bf, 0, none⟩)] w fun e w' => e = .returned (.bool (goes few (s.n + 1))) ∧ w' = w.setCell ⟨bn, 0, none⟩ (.int .i64 ((s.n + 1 : Nat) : Int)) := by
 have c0 := h.n.cell
 have f0 := h.n.free
 have c1 := h.f.cell
 have n5 := h.ne.2.2.2.2.1
 have n5' := Ne.symm n5
 clear h
 have hn : ∀ w, (binOp .eql 52 (.iface T p) .nilIface).run Tryz.prog w = .ok (.bool false) w := fun w => by kernel_rfl
 by_cases h1 : few < 0
 ·have HG : Hid (goes few (s.n + 1) = true) := Lib.hid (by simp [goes, h1])
  go_enter Tryz.func16, Tryz.ntmps16
  go_wp2
  go_ret
  exact ⟨by rw [HG.out]; rfl, rfl⟩
 ·have HG : Hid (goes few (s.n + 1) = decide ((s.n : Int) + 1 ≤ few)) := Lib.hid (by simp [goes, h1])
  go_enter Tryz.func16, Tryz.ntmps16
  go_wp2
  go_ret
  exact ⟨by rw [HG.out]; rfl, rfl⟩
end Go.Proofs.YtabeokminikfdaaGreat
namespace Go.Proofs.YtabeokminikfdaaGreat
open Go.RowKit
theorem info9 : (Tryz.prog.info? 9).map (fun i => (i.zero, i.size, i.bytes)) = some (some (.string ⟨#[]⟩), 1, 16) := by kernel_rfl
theorem CL.named {W1 X w2 : World} {o : Obj} {B be bn bl bf : Nat} {few : Int} {v v2 : Value} {s : St} {nm : ByteArray} (h : CL W1 B be bn bl bf few v s) (hX : X.heap = (W1.alloc o).heap) (h1 : X.os = W1.os) (h2 : X.tape = W1.tape) (h3 : X.output = W1.output)
  (hg : X.grownBy w2 v.ownBlock) (ho : w2.ownsRow B 9 1 v2 (s.names.length + 1) (s.names.map Value.string ++ [.string nm])) (hv : BlockOf X v v2) :
  (One w2 bn (.int .i64 s.n) 3 ∧ One w2 bf (.int .i64 few) 3) ∧ CL (w2.setCell ⟨bl, 0, none⟩ v2) B be bn bl bf few v2 ⟨s.names ++ [nm], s.n, s.e⟩ ∧ BlockOf W1 v v2 ∧ W1.heap.size ≤ w2.heap.size ∧ w2.os = W1.os ∧ w2.tape = W1.tape ∧ w2.output = W1.output ∧ ∀ k, k < W1.heap.size → k ≠ bl → some k ≠ v.ownBlock → (w2.setCell ⟨bl, 0, none⟩ v2).heap[k]? = W1.heap[k]? := by
 have hsX : X.heap.size = W1.heap.size + 1 := by rw [hX]; simp
 have key : ∀ k, k < W1.heap.size → some k ≠ v.ownBlock → w2.heap[k]? = W1.heap[k]? := fun k hk hn => by
  rw [hg.block k (by omega) hn, hX]
  exact Below.heap_alloc W1 o k hk
 have low : ∀ k, k < B → some k ≠ v.ownBlock := fun k hk e => by
  have := (h.row.lt k e.symm).1
  omega
 obtain ⟨n1, n2, n3, n4, n5, n6⟩ := h.ne
 obtain ⟨l1, l2, l3, l4⟩ := h.low
 have ke : One w2 be (.int .i64 s.e) 3 := (key be h.e.lt (low be l1)).trans h.e
 have kn : One w2 bn (.int .i64 s.n) 3 := (key bn h.n.lt (low bn l2)).trans h.n
 have kl : One w2 bl v 30 := (key bl h.l.lt (low bl l3)).trans h.l
 have kf : One w2 bf (.int .i64 few) 3 := (key bf h.f.lt (low bf l4)).trans h.f
 refine ⟨⟨kn, kf⟩, ⟨ke.other n2 0 _, kn.other n4 0 _, kl.set _, kf.other n6.symm 0 _, ?_, h.ne, h.low⟩, ?_, by have := hg.size; omega, hg.os.trans h1, hg.tape.trans h2, hg.output.trans h3, ?_⟩
 ·have := own_setOld ho (a := ⟨bl, 0, none⟩) l3 v2
  simpa using this
 ·rcases hv with hv | ⟨g, hv, hs⟩
  ·exact .inl hv
  ·exact .inr ⟨g, hv, by omega⟩
 ·intro k hk hkl hn
  exact (Below.heap_setCell w2 ⟨bl, 0, none⟩ v2 k hkl).trans (key k hk hn)
def Named (B be bn bl bf : Nat) (few : Int) (v : Value) (s : St) (nm : ByteArray) (w : World) (e : Ending) (w' : World) : Prop :=
 e = .returned (.bool (goes few (s.n + 1))) ∧ ∃ v', CL w' B be bn bl bf few v' ⟨s.names ++ [nm], s.n + 1, s.e⟩ ∧ BlockOf w v v' ∧ w.heap.size ≤ w'.heap.size ∧ w'.os = w.os ∧ w'.tape = w.tape ∧ w'.output = w.output ∧ ∀ k, k < w.heap.size → k ≠ bn → k ≠ bl → some k ≠ v.ownBlock → w'.heap[k]? = w.heap[k]?
theorem f16_ident (g : Nat) (nm : ByteArray) (B be bn bl bf : Nat) (few : Int) (v : Value) (s : St) (hs : s.n ≤ 1000000) (hn : s.names.length ≤ 1000000) (w : World) (h : CL w B be bn bl bf few v s) (hB : B ≤ w.heap.size)
  (hg : w.cell? ⟨g, 4, none⟩ = some (.string nm)) (hgn : g ≠ bn) :
  Calls Tryz.prog 16 #[.iface 53 (.pointer (some ⟨g, 0, none⟩)), .pointer (some ⟨be, 0, none⟩), .pointer (some ⟨bn, 0, none⟩), .pointer (some ⟨bl, 0, none⟩), .pointer (some ⟨bf, 0, none⟩)] w (Named B be bn bl bf few v s nm w) := by
 obtain ⟨i0, hi, hz0, hz1, hz2⟩ := info_parts info9
 have ta : ∀ w, (Instr.typeAssert (.iface 53 (.pointer (some ⟨g, 0, none⟩))) 52 53 true).run Tryz.prog w = .ok (.tuple #[.pointer (some ⟨g, 0, none⟩), .bool true]) w := fun _ => by kernel_rfl
 have hnn : ∀ w, (binOp .eql 52 (.iface 53 (.pointer (some ⟨g, 0, none⟩))) .nilIface).run Tryz.prog w = .ok (.bool false) w := fun w => by kernel_rfl
 have c0 := h.n.cell
 have f0 := h.n.free
 have hC1 : CL (w.setCell ⟨bn, 0, none⟩ (.int .i64 ((s.n : Int) + 1))) B be bn bl bf few v ⟨s.names, s.n + 1, s.e⟩ := by
  obtain ⟨n1, n2, n3, n4, n5, n6⟩ := h.ne
  exact ⟨h.e.other n1 0 _, h.n.set _, h.l.other n4.symm 0 _, h.f.other n5.symm 0 _, own_setOld h.row h.low.2.1 _, h.ne, h.low⟩
 have g1 : (w.setCell ⟨bn, 0, none⟩ (.int .i64 ((s.n : Int) + 1))).cell? ⟨g, 4, none⟩ = some (.string nm) := (World.cell?_setCell_other _ _ _ _ (by intro e; exact hgn (by injection e with e1; exact e1.symm))).trans hg
 have hsz : (w.setCell ⟨bn, 0, none⟩ (.int .i64 ((s.n : Int) + 1))).heap.size = w.heap.size := by simp [World.setCell]
 have HK : Hid (∀ k, k ≠ bn → (w.setCell ⟨bn, 0, none⟩ (.int .i64 ((s.n : Int) + 1))).heap[k]? = w.heap[k]?) := Lib.hid (fun k hk => Below.heap_setCell w ⟨bn, 0, none⟩ _ k hk)
 have HW : Hid ((w.setCell ⟨bn, 0, none⟩ (.int .i64 ((s.n : Int) + 1))).os = w.os ∧ (w.setCell ⟨bn, 0, none⟩ (.int .i64 ((s.n : Int) + 1))).tape = w.tape ∧ (w.setCell ⟨bn, 0, none⟩ (.int .i64 ((s.n : Int) + 1))).output = w.output) := Lib.hid ⟨rfl, rfl, rfl⟩
 clear h hg
 go_enter Tryz.func16, Tryz.ntmps16
 go_wp2
 generalize w.setCell ⟨bn, 0, none⟩ (.int .i64 ((s.n : Int) + 1)) = W1 at *
 clear c0 f0
 obtain ⟨VA, VC, rfl⟩ := own_len hC1.row
 have l0 : W1.cell? ⟨bl, 0, none⟩ = some (.slice VA s.names.length VC) := hC1.l.cell
 have lf := hC1.l.free 0
 have ll := hC1.l.lt
 have HC1 := Lib.hid hC1
 have HB1 : Hid (B ≤ W1.heap.size) := Lib.hid (by omega)
 have HL : Hid (s.names.length + 1 ≤ maxLen ∧ (s.names.length + 1) * 16 ≤ 140737488355328) := Lib.hid ⟨by unfold maxLen; omega, by omega⟩
 have HSZ := Lib.hid hsz
 have HRW : Hid ((W1.alloc (.cells #[.string nm] 9)).ownsRow B 9 1 (.slice VA s.names.length VC) s.names.length (s.names.map Value.string)) := hC1.row.alloc _
 have hne : W1.heap.size ≠ bl := Nat.ne_of_gt ll
 clear hC1 hsz
 go_region_law ((refine step_append_blk rfl (.tmp 21) (.tmp 26) 30 rfl B 9 i0 (.string ⟨#[]⟩) 1 16 Tryz.underlying30 hi hz0 hz1 hz2 rfl (by decide) (.slice VA s.names.length VC) s.names.length (s.names.map Value.string) (by rfl) (own_heap HRW.out rfl) (.slice (some ⟨W1.heap.size, 0, none⟩) 1 1) 1 [.string nm] (by rfl) (.inr ⟨_, _, rfl, World.news_of_block (heap_alloc_new W1 _)⟩) rfl (by intro y hy; obtain rfl := List.mem_singleton.1 hy; rfl) HL.out.1 HL.out.2 (Nat.le_trans HB1.out (by simp)) ?_); intro v' w2 ho2 hg2 hv2; obtain ⟨A2, C2, rfl⟩ := own_len ho2; have y0 : w2.heap[bl]? = W1.heap[bl]? := (hg2.block bl (by show bl < (W1.heap.push _).size; rw [Array.size_push]; omega) (fun e => by have := (HRW.out.lt bl e.symm).1; have := HC1.out.low.2.2.1; omega)).trans (Below.heap_alloc W1 _ bl ll); have yc := (World.cell?_of_block (w := W1) (a := ⟨bl, 0, none⟩) y0).trans HC1.out.l.cell; have yf : w2.frozen? ⟨bl, 0, none⟩ = false := (World.frozen?_of_block (w := W1) (a := ⟨bl, 0, none⟩) y0).trans (HC1.out.l.free 0); have HO2 := Lib.hid ho2; have HG2 := Lib.hid hg2; have HV2 := Lib.hid hv2; clear ho2 hg2 hv2 y0)
 all_goals
  obtain ⟨⟨k1, k2⟩, k3⟩ := CL.named (nm := nm) (o := .cells #[.string nm] 9) HC1.out (by rfl) (by rfl) (by rfl) (by rfl) HG2.out HO2.out HV2.out
  have hx2 := k1.cell
  have hx3 := k2.cell
  have K3 := Lib.hid k3
  have m1 : bl ≠ bf := HC1.out.ne.2.2.2.2.2
  have m2 : bl ≠ bn := Ne.symm HC1.out.ne.2.2.2.1
  clear g1 l0 lf k1 k2 k3
  by_cases hfew : few < 0
  ·have HG : Hid (goes few (s.n + 1) = true) := Lib.hid (by simp [goes, hfew])
   go_wp2
   all_goals
    go_ret
    obtain ⟨q1, q2, q3, q4, q5, q6, q7⟩ := K3.out
    obtain ⟨u1, u2, u3⟩ := HW.out
    refine ⟨by rw [HG.out]; rfl, _, q1, ?_, ?_, q4.trans u1, q5.trans u2, q6.trans u3, ?_⟩
    ·rcases q2 with hv | ⟨x, hv, hx⟩
     ·exact .inl hv
     ·exact .inr ⟨x, hv, Nat.le_trans (Nat.le_of_eq HSZ.out.symm) hx⟩
    ·have := HSZ.out
     simp [World.setCell]
     omega
    ·intro k hk k0 k1 k2
     exact (q7 k (HSZ.out ▸ hk) k1 k2).trans (HK.out k k0)
  ·have HG : Hid (goes few (s.n + 1) = decide ((s.n : Int) + 1 ≤ few)) := Lib.hid (by simp [goes, hfew])
   go_wp2
   all_goals
    go_ret
    obtain ⟨q1, q2, q3, q4, q5, q6, q7⟩ := K3.out
    obtain ⟨u1, u2, u3⟩ := HW.out
    refine ⟨by rw [HG.out]; rfl, _, q1, ?_, ?_, q4.trans u1, q5.trans u2, q6.trans u3, ?_⟩
    ·rcases q2 with hv | ⟨x, hv, hx⟩
     ·exact .inl hv
     ·exact .inr ⟨x, hv, Nat.le_trans (Nat.le_of_eq HSZ.out.symm) hx⟩
    ·have := HSZ.out
     simp [World.setCell]
     omega
    ·intro k hk k0 k1 k2
     exact (q7 k (HSZ.out ▸ hk) k1 k2).trans (HK.out k k0)
end Go.Proofs.YtabeokminikfdaaGreat
namespace Go.Proofs.YtabeokminikfdaaGreat
open Go.RowKit
inductive Fd
 | node
 | ptr (t : TypeId)
 | opt
 | row (t : TypeId)
def fields : TypeId → Option (List (Nat × Fd))
 | 46 => some [(2, .row 0)]
 | 79 => some [(1, .node)]
 | 84 => some []
 | 85 => some [(4, .node), (5, .row 0), (9, .row 0)]
 | 88 => some [(5, .node), (6, .node)]
 | 93 => some [(4, .ptr 53), (8, .row 0), (12, .row 0)]
 | 97 => some [(4, .node), (5, .node), (6, .row 0)]
 | 100 => some [(4, .node), (5, .row 0)]
 | 103 => some [(4, .opt)]
 | 106 => some [(4, .ptr 107), (5, .row 53), (6, .row 53)]
 | 107 => some []
 | 110 => some [(4, .row 0)]
 | 113 => some [(4, .node)]
 | 116 => some [(4, .node), (5, .node), (9, .node)]
 | 119 => some [(1, .node), (5, .node)]
 | 122 => some [(1, .node), (5, .node)]
 | 125 => some [(1, .node), (5, .opt), (6, .opt), (7, .opt)]
 | 128 => some [(5, .node), (6, .row 0)]
 | 131 => some [(4, .node)]
 | 134 => some [(4, .node), (8, .node)]
 | 137 => some [(4, .row 0)]
 | 140 => some [(4, .row 0)]
 | 143 => some [(5, .opt)]
 | 146 => some [(1, .node), (6, .node)]
 | 149 => some [(1, .node), (8, .ptr 53)]
 | 152 => some [(1, .node), (5, .row 0)]
 | 155 => some [(4, .row 0), (5, .node)]
 | _ => none
def asNode (t : TypeId) (v : Value) : Value := if t = 0 then v else .iface t v
mutual
inductive Nd (R : Addr → Value → Prop) : Value → Tr → Prop
 | ident (g : Nat) (nm : ByteArray) : R ⟨g, 4, none⟩ (.string nm) → Nd R (.iface 53 (.pointer (some ⟨g, 0, none⟩))) (.mk (some nm) [])
 | other (T : TypeId) (g : Nat) (fs : List (Nat × Fd)) (ks : List Tr) : fields T = some fs → Fds R g fs ks → Nd R (.iface T (.pointer (some ⟨g, 0, none⟩))) (.mk none ks)
inductive Fds (R : Addr → Value → Prop) : Nat → List (Nat × Fd) → List Tr → Prop
 | nil (g : Nat) : Fds R g [] []
 | node (g i : Nat) (fs : List (Nat × Fd)) (v : Value) (t : Tr) (ts : List Tr) : R ⟨g, i, none⟩ v → Nd R v t → Fds R g fs ts → Fds R g ((i, .node) :: fs) (t :: ts)
 | ptr (g i : Nat) (T : TypeId) (fs : List (Nat × Fd)) (v : Value) (t : Tr) (ts : List Tr) : R ⟨g, i, none⟩ v → Nd R (.iface T v) t → Fds R g fs ts → Fds R g ((i, .ptr T) :: fs) (t :: ts)
 | none (g i : Nat) (fs : List (Nat × Fd)) (ts : List Tr) : R ⟨g, i, none⟩ .nilIface → Fds R g fs ts → Fds R g ((i, .opt) :: fs) ts
 | opt (g i : Nat) (fs : List (Nat × Fd)) (v : Value) (t : Tr) (ts : List Tr) : R ⟨g, i, none⟩ v → Nd R v t → Fds R g fs ts → Fds R g ((i, .opt) :: fs) (t :: ts)
 | row (g i : Nat) (T : TypeId) (fs : List (Nat × Fd)) (a : Option Addr) (n c : Nat) (rs ts : List Tr) : R ⟨g, i, none⟩ (.slice a n c) → Nds R T a rs → n = rs.length → Fds R g fs ts → Fds R g ((i, .row T) :: fs) (rs ++ ts)
inductive Nds (R : Addr → Value → Prop) : TypeId → Option Addr → List Tr → Prop
 | nil (T : TypeId) (a : Option Addr) : Nds R T a []
 | cons (T : TypeId) (b i : Nat) (v : Value) (t : Tr) (ts : List Tr) : R ⟨b, i, none⟩ v → Nd R (asNode T v) t → Nds R T (some ⟨b, i + 1, none⟩) ts → Nds R T (some ⟨b, i, none⟩) (t :: ts)
end
mutual
theorem Nd.mono {R R' : Addr → Value → Prop} (h : ∀ a v, R a v → R' a v) : ∀ {v : Value} {t : Tr}, Nd R v t → Nd R' v t
 | _, _, .ident g nm hc => .ident g nm (h _ _ hc)
 | _, _, .other T g fs ks hf hk => .other T g fs ks hf (hk.mono h)
theorem Fds.mono {R R' : Addr → Value → Prop} (h : ∀ a v, R a v → R' a v) : ∀ {g : Nat} {fs : List (Nat × Fd)} {ts : List Tr}, Fds R g fs ts → Fds R' g fs ts
 | _, _, _, .nil g => .nil g
 | _, _, _, .node g i fs v t ts hc hn hf => .node g i fs v t ts (h _ _ hc) (hn.mono h) (hf.mono h)
 | _, _, _, .ptr g i T fs v t ts hc hn hf => .ptr g i T fs v t ts (h _ _ hc) (hn.mono h) (hf.mono h)
 | _, _, _, .none g i fs ts hc hf => .none g i fs ts (h _ _ hc) (hf.mono h)
 | _, _, _, .opt g i fs v t ts hc hn hf => .opt g i fs v t ts (h _ _ hc) (hn.mono h) (hf.mono h)
 | _, _, _, .row g i T fs a n c rs ts hc hr he hf => .row g i T fs a n c rs ts (h _ _ hc) (hr.mono h) he (hf.mono h)
theorem Nds.mono {R R' : Addr → Value → Prop} (h : ∀ a v, R a v → R' a v) : ∀ {T : TypeId} {a : Option Addr} {ts : List Tr}, Nds R T a ts → Nds R' T a ts
 | _, _, _, .nil T a => .nil T a
 | _, _, _, .cons T b i v t ts hc hn hr => .cons T b i v t ts (h _ _ hc) (hn.mono h) (hr.mono h)
end
def Sees (w : World) (P : Nat → Prop) (a : Addr) (v : Value) : Prop := P a.block ∧ w.cell? a = some v
theorem Sees.mono {w w' : World} {P P' : Nat → Prop} (h : ∀ k, P k → P' k) (hk : ∀ k, P k → w'.heap[k]? = w.heap[k]?) (a : Addr) (v : Value) (hs : Sees w P a v) : Sees w' P' a v :=
 ⟨h _ hs.1, (World.cell?_of_block (w := w) (a := a) (hk _ hs.1)).trans hs.2⟩
end Go.Proofs.YtabeokminikfdaaGreat
namespace Go.Proofs.YtabeokminikfdaaGreat
open Go.RowKit
def clo (be bn bl bf : Nat) : Value := .func (.func 16) #[] #[.pointer (some ⟨be, 0, none⟩), .pointer (some ⟨bn, 0, none⟩), .pointer (some ⟨bl, 0, none⟩), .pointer (some ⟨bf, 0, none⟩)]
structure Leaves (P : Nat → Prop) (B be bn bl bf : Nat) (few : Int) (s' : St) (w w' : World) : Prop where
 cl : ∃ v, CL w' B be bn bl bf few v s'
 size : w.heap.size ≤ w'.heap.size
 keeps : ∀ k, P k → w'.heap[k]? = w.heap[k]?
 os : w'.os = w.os
 tape : w'.tape = w.tape
 output : w'.output = w.output
theorem Leaves.trans {P : Nat → Prop} {B be bn bl bf : Nat} {few : Int} {s1 s2 : St} {w w1 w2 : World} (h : Leaves P B be bn bl bf few s1 w w1) (h' : Leaves P B be bn bl bf few s2 w1 w2) : Leaves P B be bn bl bf few s2 w w2 :=
 ⟨h'.cl, Nat.le_trans h.size h'.size, fun k hk => (h'.keeps k hk).trans (h.keeps k hk), h'.os.trans h.os, h'.tape.trans h.tape, h'.output.trans h.output⟩
def Reads (P : Nat → Prop) (B be bn bl bf : Nat) : Prop := ∀ k, P k → k < B ∧ k ≠ be ∧ k ≠ bn ∧ k ≠ bl ∧ k ≠ bf
def WalkAt (P : Nat → Prop) (B be bn bl bf : Nat) (few : Int) (sz : Nat) : Prop :=
 ∀ (x : Value) (t : Tr) (s : St) (v : Value) (w : World), t.size ≤ sz → s.n + t.size ≤ 1000000 → s.names.length ≤ s.n → s.e ≤ s.n → CL w B be bn bl bf few v s → B ≤ w.heap.size → Nd (Sees w P) x t →
  Calls Tryz.prog 15 #[x, clo be bn bl bf] w fun e w' => e = .returned (.tuple #[]) ∧ Leaves P B be bn bl bf few (visit few t s) w w'
theorem Nds.get {R : Addr → Value → Prop} {T : TypeId} : ∀ {ts : List Tr} {b i : Nat}, Nds R T (some ⟨b, i, none⟩) ts → ∀ (j : Nat) (hj : j < ts.length), ∃ v, R ⟨b, i + j, none⟩ v ∧ Nd R (asNode T v) ts[j]
 | _, _, _, .nil _ _, j, hj => absurd hj (Nat.not_lt_zero j)
 | _, _, _, .cons T b i v t ts hc hn hr, 0, _ => ⟨v, hc, hn⟩
 | _, _, _, .cons T b i v t ts hc hn hr, j + 1, hj => by
  obtain ⟨u, hu, hd⟩ := Nds.get hr j (Nat.lt_of_succ_lt_succ hj)
  exact ⟨u, by rw [show i + (j + 1) = i + 1 + j by omega]; exact hu, hd⟩
theorem visits_append (few : Int) : ∀ (a b : List Tr) (s : St), visits few (a ++ b) s = visits few b (visits few a s)
 | [], _, _ => by rw [visits]; rfl
 | t :: a, b, s => by rw [List.cons_append, visits, visits, visits_append few a b]
theorem sizes_append : ∀ (a b : List Tr), sizes (a ++ b) = sizes a + sizes b
 | [], b => by simp [sizes]
 | t :: a, b => by simp [sizes, sizes_append a b, Nat.add_assoc]
mutual
theorem visit_fits (few : Int) : ∀ (t : Tr) (s : St) (d : Nat), s.names.length ≤ s.n → s.e + d ≤ s.n → (visit few t s).names.length ≤ (visit few t s).n ∧ (visit few t s).e + d ≤ (visit few t s).n ∧ (visit few t s).n ≤ s.n + t.size
 | .mk nm ks, s, d, hn, he => by
  have hl : nm.toList.length ≤ 1 := by cases nm <;> simp
  rw [visit, Tr.size]
  split
  ·obtain ⟨h1, h2, h3⟩ := visits_fits few ks ⟨s.names ++ nm.toList, s.n + 1, s.e⟩ (d + 1) (by simp only [List.length_append]; omega) (by show s.e + (d + 1) ≤ s.n + 1; omega)
   dsimp only at h1 h2 h3 ⊢
   exact ⟨h1, by omega, by omega⟩
  ·exact ⟨by simp only [List.length_append]; omega, by show s.e + d ≤ s.n + 1; omega, by show s.n + 1 ≤ _; omega⟩
theorem visits_fits (few : Int) : ∀ (ts : List Tr) (s : St) (d : Nat), s.names.length ≤ s.n → s.e + d ≤ s.n → (visits few ts s).names.length ≤ (visits few ts s).n ∧ (visits few ts s).e + d ≤ (visits few ts s).n ∧ (visits few ts s).n ≤ s.n + sizes ts
 | [], s, d, hn, he => ⟨by rw [visits]; exact hn, by rw [visits]; exact he, by rw [visits]; exact Nat.le_add_right _ _⟩
 | t :: ts, s, d, hn, he => by
  obtain ⟨h1, h2, h3⟩ := visit_fits few t s d hn he
  obtain ⟨g1, g2, g3⟩ := visits_fits few ts (visit few t s) d h1 h2
  rw [visits, sizes]
  exact ⟨g1, g2, by omega⟩
end
end Go.Proofs.YtabeokminikfdaaGreat
namespace Go.Proofs.YtabeokminikfdaaGreat
open Go.RowKit
theorem sizes_at (ts : List Tr) (k : Nat) (hk : k < ts.length) : sizes (ts.take k) + ts[k].size ≤ sizes ts := by
 have h : sizes (ts.take k ++ ts.drop k) = sizes (ts.take k) + sizes (ts.drop k) := sizes_append _ _
 rw [List.take_append_drop, List.drop_eq_getElem_cons hk, sizes] at h
 omega
theorem length_sizes : ∀ ts : List Tr, ts.length ≤ sizes ts
 | [] => Nat.zero_le _
 | .mk nm ks :: ts => by
  have := length_sizes ts
  simp only [List.length_cons, sizes, Tr.size]
  omega
theorem visits_at (few : Int) (ts : List Tr) (s : St) (k : Nat) (hk : k < ts.length) : visits few (ts.take (k + 1)) s = visit few ts[k] (visits few (ts.take k) s) := by
 rw [List.take_succ_eq_append_getElem hk, visits_append, visits, visits]
theorem f23_any (P : Nat → Prop) (B be bn bl bf : Nat) (few : Int) (sz : Nat) (hW : WalkAt P B be bn bl bf few sz) (a : Option Addr) (n c : Nat) (ts : List Tr) (s : St) (v : Value) (w : World) (hn : n = ts.length) (hs : sizes ts ≤ sz) (hm : s.n + sizes ts ≤ 1000000) (h1 : s.names.length ≤ s.n) (h2 : s.e ≤ s.n)
  (hC : CL w B be bn bl bf few v s) (hB : B ≤ w.heap.size) (hd : Nds (Sees w P) 0 a ts) :
  Calls Tryz.prog 23 #[.slice a n c, clo be bn bl bf] w fun e w' => e = .returned (.tuple #[]) ∧ Leaves P B be bn bl bf few (visits few ts s) w w' := by
 subst hn
 have hlen : ts.length ≤ 1000000 := by
  have := length_sizes ts
  omega
 have HW := Lib.hid hW
 have HD := Lib.hid hd
 have HC := Lib.hid hC
 have HS := Lib.hid hs
 have HM := Lib.hid hm
 clear hW hd hC hs hm
 go_enter Tryz.func23, Tryz.ntmps23
 go_wp2
 go_loopw [8] (fun i wr => ∃ k : Nat, k ≤ ts.length ∧ i = .int .i64 k ∧ Leaves P B be bn bl bf few (visits few (ts.take k) s) w wr) (fun i _ => ts.length - (intOf i).toNat)
 case atStart => exact ⟨0, Nat.zero_le _, rfl, ⟨⟨v, by rw [List.take_zero, visits]; exact HC.out⟩, Nat.le_refl _, fun _ _ => rfl, rfl, rfl, rfl⟩⟩
 case round =>
  obtain ⟨k, hk, rfl, hL⟩ := hrel
  have HL := Lib.hid hL
  clear hL
  by_cases hlt : k < ts.length
  ·have hk' : k < ts.length := by omega
   have HN : Hid (∃ b i, a = some ⟨b, i, none⟩) := Lib.hid (by
    cases HD.out with
    | nil => exact absurd hk' (Nat.not_lt_zero k)
    | cons T b i v t ts hc hn hr => exact ⟨b, i, rfl⟩)
   obtain ⟨b, i, rfl⟩ := HN.out
   obtain ⟨x, hx, hdx⟩ := Nds.get HD.out k hk'
   have hc : wr.cell? ⟨b, i + k, none⟩ = some x := (World.cell?_of_block (w := w) (a := ⟨b, i + k, none⟩) (HL.out.keeps _ hx.1)).trans hx.2
   have HX : Hid (Nd (Sees wr P) x ts[k]) := Lib.hid (hdx.mono (Sees.mono (fun _ h => h) HL.out.keeps))
   clear hx hdx HN
   have HZ := Lib.hid (sizes_at ts k hk')
   have HF := Lib.hid (visits_fits few (ts.take k) s 0 h1 h2)
   have HV := Lib.hid (visits_at few ts s k hk')
   obtain ⟨v1, hv1⟩ := HL.out.cl
   have HC1 := Lib.hid hv1
   clear hv1
   go_wp2_with fail
   have hz := HZ.out
   have hf := HF.out
   have hs := HS.out
   have hm := HM.out
   refine (HW.out x ts[k] _ v1 wr (by omega) (by omega) hf.1 hf.2.1 HC1.out (Nat.le_trans hB HL.out.size) HX.out).mono ?_
   rintro e w2 ⟨rfl, hl2⟩
   have HL2 := Lib.hid hl2
   clear hl2 hz hf hs hm
   go_wp2
   go_roundw
   case rel => exact ⟨k + 1, by omega, by go_num, by rw [HV.out]; exact HL.out.trans HL2.out⟩
   case measure =>
    simp [intOf]
    omega
  ·go_wp2
   go_end0
   obtain rfl : k = ts.length := by omega
   refine ⟨rfl, ?_⟩
   have := HL.out
   rwa [List.take_length] at this
end Go.Proofs.YtabeokminikfdaaGreat
namespace Go.Proofs.YtabeokminikfdaaGreat
open Go.RowKit
theorem CL.counted {w : World} {B be bn bl bf : Nat} {few : Int} {v : Value} {s : St} (h : CL w B be bn bl bf few v s) : CL (w.setCell ⟨bn, 0, none⟩ (.int .i64 ((s.n + 1 : Nat) : Int))) B be bn bl bf few v ⟨s.names, s.n + 1, s.e⟩ := by
 obtain ⟨n1, n2, n3, n4, n5, n6⟩ := h.ne
 exact ⟨h.e.other n1 0 _, h.n.set _, h.l.other n4.symm 0 _, h.f.other n5.symm 0 _, own_setOld h.row h.low.2.1 _, h.ne, h.low⟩
theorem Leaves.start {P : Nat → Prop} {w : World} {B be bn bl bf : Nat} {few : Int} {v : Value} {s : St} (h : CL w B be bn bl bf few v s) (hP : Reads P B be bn bl bf) : Leaves P B be bn bl bf few ⟨s.names, s.n + 1, s.e⟩ w (w.setCell ⟨bn, 0, none⟩ (.int .i64 ((s.n + 1 : Nat) : Int))) :=
 ⟨⟨v, h.counted⟩, by simp [World.setCell], fun k hk => Below.heap_setCell w ⟨bn, 0, none⟩ _ k (hP k hk).2.2.1, rfl, rfl, rfl⟩
theorem Leaves.finish {P : Nat → Prop} {w w1 : World} {B be bn bl bf : Nat} {few : Int} {v : Value} {s : St} (h : Leaves P B be bn bl bf few s w w1) (hc : CL w1 B be bn bl bf few v s) (hP : Reads P B be bn bl bf) : Leaves P B be bn bl bf few ⟨s.names, s.n, s.e + 1⟩ w (w1.setCell ⟨be, 0, none⟩ (.int .i64 ((s.e + 1 : Nat) : Int))) :=
 ⟨⟨v, hc.ended⟩, by simpa [World.setCell] using h.size, fun k hk => (Below.heap_setCell w1 ⟨be, 0, none⟩ _ k (hP k hk).2.1).trans (h.keeps k hk), h.os, h.tape, h.output⟩
theorem visit_in {few : Int} {s : St} (h : goes few (s.n + 1) = true) (nm : Option ByteArray) (ks : List Tr) : visit few (.mk nm ks) s = ⟨(visits few ks ⟨s.names ++ nm.toList, s.n + 1, s.e⟩).names, (visits few ks ⟨s.names ++ nm.toList, s.n + 1, s.e⟩).n, (visits few ks ⟨s.names ++ nm.toList, s.n + 1, s.e⟩).e + 1⟩ := by
 have h' : few < 0 ∨ ((s.n + 1 : Nat) : Int) ≤ few := by simpa [goes] using h
 rw [visit, if_pos h']
theorem visit_out {few : Int} {s : St} (h : goes few (s.n + 1) = false) (nm : Option ByteArray) (ks : List Tr) : visit few (.mk nm ks) s = ⟨s.names ++ nm.toList, s.n + 1, s.e⟩ := by
 have h' : ¬ (few < 0 ∨ ((s.n + 1 : Nat) : Int) ≤ few) := by
  intro e
  have : goes few (s.n + 1) = true := by simpa [goes] using e
  rw [h] at this
  cases this
 rw [visit, if_neg h']
structure Mid (P : Nat → Prop) (B be bn bl bf : Nat) (few : Int) (sz : Nat) (s : St) (left : Nat) (w wk : World) : Prop where
 leaves : Leaves P B be bn bl bf few s w wk
 names : s.names.length ≤ s.n
 ends : s.e ≤ s.n
 fits : s.n + left ≤ 1000000
 low : left ≤ sz
theorem Mid.sees {P : Nat → Prop} {B be bn bl bf : Nat} {few : Int} {sz : Nat} {s : St} {left : Nat} {w wk : World} (h : Mid P B be bn bl bf few sz s left w wk) {a : Addr} {x : Value} (hx : Sees w P a x) : wk.cell? a = some x :=
 (World.cell?_of_block (w := w) (a := a) (h.leaves.keeps _ hx.1)).trans hx.2
theorem Mid.call {P : Nat → Prop} {B be bn bl bf : Nat} {few : Int} {sz : Nat} (hW : WalkAt P B be bn bl bf few sz) {s : St} {t : Tr} {left : Nat} {x : Value} {w wk : World} (h : Mid P B be bn bl bf few sz s (t.size + left) w wk) (hB : B ≤ w.heap.size) (hd : Nd (Sees w P) x t) :
  Calls Tryz.prog 15 #[x, clo be bn bl bf] wk fun e w' => e = .returned (.tuple #[]) ∧ Mid P B be bn bl bf few sz (visit few t s) left w w' := by
 obtain ⟨v, hv⟩ := h.leaves.cl
 have h1 := h.fits
 have h2 := h.low
 refine (hW x t s v wk (by omega) (by omega) h.names h.ends hv (Nat.le_trans hB h.leaves.size) (hd.mono (Sees.mono (fun _ h => h) h.leaves.keeps))).mono ?_
 rintro e w' ⟨rfl, hl⟩
 obtain ⟨g1, g2, g3⟩ := visit_fits few t s 0 h.names h.ends
 exact ⟨rfl, h.leaves.trans hl, g1, g2, by omega, by omega⟩
theorem Mid.rows {P : Nat → Prop} {B be bn bl bf : Nat} {few : Int} {sz : Nat} (hW : WalkAt P B be bn bl bf few sz) {s : St} {ts : List Tr} {left : Nat} {a : Option Addr} {n c : Nat} {w wk : World} (h : Mid P B be bn bl bf few sz s (sizes ts + left) w wk) (hB : B ≤ w.heap.size) (hn : n = ts.length) (hd : Nds (Sees w P) 0 a ts) :
  Calls Tryz.prog 23 #[.slice a n c, clo be bn bl bf] wk fun e w' => e = .returned (.tuple #[]) ∧ Mid P B be bn bl bf few sz (visits few ts s) left w w' := by
 obtain ⟨v, hv⟩ := h.leaves.cl
 have h1 := h.fits
 have h2 := h.low
 refine (f23_any P B be bn bl bf few sz hW a n c ts s v wk hn (by omega) (by omega) h.names h.ends hv (Nat.le_trans hB h.leaves.size) (hd.mono (Sees.mono (fun _ h => h) h.leaves.keeps))).mono ?_
 rintro e w' ⟨rfl, hl⟩
 obtain ⟨g1, g2, g3⟩ := visits_fits few ts s 0 h.names h.ends
 exact ⟨rfl, h.leaves.trans hl, g1, g2, by omega, by omega⟩
theorem Mid.ended {P : Nat → Prop} {B be bn bl bf : Nat} {few : Int} {sz : Nat} {s : St} {left : Nat} {w wk : World} (h : Mid P B be bn bl bf few sz s left w wk) (hP : Reads P B be bn bl bf) :
  Calls Tryz.prog 16 #[.nilIface, .pointer (some ⟨be, 0, none⟩), .pointer (some ⟨bn, 0, none⟩), .pointer (some ⟨bl, 0, none⟩), .pointer (some ⟨bf, 0, none⟩)] wk fun e w' => e = .returned (.bool false) ∧ Leaves P B be bn bl bf few ⟨s.names, s.n, s.e + 1⟩ w w' := by
 obtain ⟨v, hv⟩ := h.leaves.cl
 have h1 := h.fits
 have h2 := h.ends
 refine (f16_nil B be bn bl bf few v s (by omega) wk hv).mono ?_
 rintro e w' ⟨rfl, rfl⟩
 exact ⟨rfl, h.leaves.finish hv hP⟩
theorem mid_start {P : Nat → Prop} {B be bn bl bf : Nat} {few : Int} {sz left : Nat} (T : TypeId) (p : Value) (hT : ∀ w, (Instr.typeAssert (.iface T p) 52 53 true).run Tryz.prog w = .ok (.tuple #[.pointer none, .bool false]) w) {s : St} {v : Value} {w : World} (hC : CL w B be bn bl bf few v s) (hP : Reads P B be bn bl bf) (h1 : s.names.length ≤ s.n) (he : s.e ≤ s.n) (hm : s.n + 1 + left ≤ 1000000) (hs : left ≤ sz) :
  Calls Tryz.prog 16 #[.iface T p, .pointer (some ⟨be, 0, none⟩), .pointer (some ⟨bn, 0, none⟩), .pointer (some ⟨bl, 0, none⟩), .pointer (some ⟨bf, 0, none⟩)] w fun e w' => e = .returned (.bool (goes few (s.n + 1))) ∧ Mid P B be bn bl bf few sz ⟨s.names, s.n + 1, s.e⟩ left w w' := by
 refine (f16_plain T p hT B be bn bl bf few v s (by omega) w hC).mono ?_
 rintro e w' ⟨rfl, rfl⟩
 exact ⟨rfl, Leaves.start hC hP, by show s.names.length ≤ s.n + 1; omega, by show s.e ≤ s.n + 1; omega, hm, hs⟩
theorem fds_nil {R : Addr → Value → Prop} {g : Nat} {ks : List Tr} (h : Fds R g [] ks) : ks = [] := by cases h; rfl
theorem fds_node {R : Addr → Value → Prop} {g i : Nat} {fs : List (Nat × Fd)} {ks : List Tr} (h : Fds R g ((i, .node) :: fs) ks) : ∃ v t ts, R ⟨g, i, none⟩ v ∧ Nd R v t ∧ Fds R g fs ts ∧ ks = t :: ts := by
 cases h; exact ⟨_, _, _, ‹_›, ‹_›, ‹_›, rfl⟩
theorem fds_ptr {R : Addr → Value → Prop} {g i : Nat} {T : TypeId} {fs : List (Nat × Fd)} {ks : List Tr} (h : Fds R g ((i, .ptr T) :: fs) ks) : ∃ v t ts, R ⟨g, i, none⟩ v ∧ Nd R (.iface T v) t ∧ Fds R g fs ts ∧ ks = t :: ts := by
 cases h; exact ⟨_, _, _, ‹_›, ‹_›, ‹_›, rfl⟩
theorem fds_opt {R : Addr → Value → Prop} {g i : Nat} {fs : List (Nat × Fd)} {ks : List Tr} (h : Fds R g ((i, .opt) :: fs) ks) : (R ⟨g, i, none⟩ .nilIface ∧ Fds R g fs ks) ∨ ∃ v t ts, R ⟨g, i, none⟩ v ∧ Nd R v t ∧ Fds R g fs ts ∧ ks = t :: ts := by
 cases h
 ·exact .inl ⟨‹_›, ‹_›⟩
 ·exact .inr ⟨_, _, _, ‹_›, ‹_›, ‹_›, rfl⟩
theorem fds_row {R : Addr → Value → Prop} {g i : Nat} {T : TypeId} {fs : List (Nat × Fd)} {ks : List Tr} (h : Fds R g ((i, .row T) :: fs) ks) : ∃ a n c rs ts, R ⟨g, i, none⟩ (.slice a n c) ∧ Nds R T a rs ∧ n = rs.length ∧ Fds R g fs ts ∧ ks = rs ++ ts := by
 cases h; exact ⟨_, _, _, _, _, ‹_›, ‹_›, ‹_›, ‹_›, rfl⟩
theorem Nd.iface {R : Addr → Value → Prop} {v : Value} {t : Tr} (h : Nd R v t) : ∃ T p, v = .iface T p := by
 cases h <;> exact ⟨_, _, rfl⟩
theorem sizes_drop (ts : List Tr) (k : Nat) (hk : k < ts.length) : sizes (ts.drop k) = ts[k].size + sizes (ts.drop (k + 1)) := by
 rw [List.drop_eq_getElem_cons hk, sizes]
theorem Mid.row0 {P : Nat → Prop} {B be bn bl bf : Nat} {few : Int} {sz : Nat} {s : St} {ts : List Tr} {left : Nat} {w wk : World} (h : Mid P B be bn bl bf few sz s (sizes ts + left) w wk) : Mid P B be bn bl bf few sz (visits few (ts.take 0) s) (sizes (ts.drop 0) + left) w wk := by
 rw [List.take_zero, List.drop_zero, visits]
 exact h
theorem Mid.row1 {P : Nat → Prop} {B be bn bl bf : Nat} {few : Int} {sz : Nat} {s : St} {ts : List Tr} {left k : Nat} (hk : k < ts.length) {w wk : World} (h : Mid P B be bn bl bf few sz (visits few (ts.take k) s) (sizes (ts.drop k) + left) w wk) : Mid P B be bn bl bf few sz (visits few (ts.take k) s) (ts[k].size + (sizes (ts.drop (k + 1)) + left)) w wk := by
 rw [sizes_drop ts k hk, Nat.add_assoc] at h
 exact h
theorem Mid.rowN {P : Nat → Prop} {B be bn bl bf : Nat} {few : Int} {sz : Nat} {s : St} {ts : List Tr} {left k : Nat} (hk : k = ts.length) {w wk : World} (h : Mid P B be bn bl bf few sz (visits few (ts.take k) s) (sizes (ts.drop k) + left) w wk) : Mid P B be bn bl bf few sz (visits few ts s) left w wk := by
 subst hk
 rw [List.take_length, List.drop_length, sizes, Nat.zero_add] at h
 exact h
theorem nds_some {R : Addr → Value → Prop} {T : TypeId} {a : Option Addr} {ts : List Tr} (h : Nds R T a ts) (hk : 0 < ts.length) : ∃ b i, a = some ⟨b, i, none⟩ := by
 cases h with
 | nil => exact absurd hk (Nat.lt_irrefl 0)
 | cons T b i v t ts hc hn hr => exact ⟨b, i, rfl⟩
end Go.Proofs.YtabeokminikfdaaGreat
