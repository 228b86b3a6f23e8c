/- The package's extend: a tuple behind a list. -/
import Derived.Test.YtllgogkjcbdpkaaGreatLf
import Derived.Deep.LoopGhost
namespace Go.Proofs.YtllgogkjcbdpkaaGreat
open Go.RowKit
open Z (Row VInt KInt BInt IsB IsW smallB MakesV MakesS MakesK)

/-- A block of one cell. -/
def ONE (w : World) (b : Nat) (v : Value) (t : TypeId) : Prop := w.heap[b]? = some (.cells #[v] t (0, 0))
theorem ONE.lt {w : World} {b : Nat} {v : Value} {t : TypeId} (h : ONE w b v t) : b < w.heap.size := (Array.getElem?_eq_some_iff.1 h).1
theorem ONE.cell {w : World} {b : Nat} {v : Value} {t : TypeId} (h : ONE w b v t) : w.cell? ⟨b, 0, none⟩ = some v ∧ w.frozen? ⟨b, 0, none⟩ = false := by
  unfold ONE at h
  constructor <;> simp [World.cell?, World.frozen?, h]
theorem ONE.set {w : World} {b : Nat} {v : Value} {t : TypeId} (h : ONE w b v t) (u : Value) : ONE (w.setCell ⟨b, 0, none⟩ u) b u t := heap_setCell_same w b 0 _ t u h
theorem ONE.other {w : World} {b : Nat} {v : Value} {t : TypeId} (h : ONE w b v t) {a : Addr} (ha : b ≠ a.block) (u : Value) : ONE (w.setCell a u) b v t := (Below.heap_setCell w a u b ha).trans h
theorem ONE.below {w w' : World} {b : Nat} {v : Value} {t : TypeId} (h : ONE w b v t) (hb : Below w.heap.size w w') : ONE w' b v t := (hb.block b h.lt).trans h
theorem LIST.set {B : Nat} {ok : Nat → Prop} {w : World} {gl : Nat} {v : Value} {qs : Ps} (h : LIST B ok w gl v qs) (a : Addr) (u : Value) (h1 : ¬ ok a.block) (h2 : gl ≠ a.block) (h3 : v.ownBlock ≠ some a.block) : LIST B ok (w.setCell a u) gl v qs :=
  ⟨⟨own_other h.kl.1 h3 u, h.kl.2.1, fun b hb => by simpa using h.kl.2.2.1 b hb, fun p hp => (h.kl.2.2.2 p hp).same (Same.set w a u h1)⟩, (Below.heap_setCell w a u gl h2).trans h.obj, h.base, h.notok, h.apart⟩
set_option maxRecDepth 100000 in
theorem f128_any (A : Option Addr) (n c : Nat) (w : World) : Calls Tryz.prog 128 #[.slice A n c] w fun e w' => e = .returned (.iface 223 (.pointer (some ⟨w.heap.size, 0, none⟩))) ∧ w.alloc (.cells #[.slice A n c] 225) = w' := by
  go_enter Tryz.func128, Tryz.ntmps128
  go_wp2
  go_ret
  exact ⟨rfl, rfl⟩
theorem f181_any (a : Value) (u : FrameMode) (w : World) : CallsD Tryz.prog 181 #[a] u w fun e u' w' => u' = u ∧ (e = .returned (.tuple #[]) ∧ w = w') := by
  go_enter_d Tryz.func181, Tryz.ntmps181
  go_wp2
  go_end0
  exact ⟨rfl, rfl⟩
set_option maxRecDepth 100000 in
theorem f182_done (gi gz : Nat) (A : Option Addr) (c : Nat) (w : World) (h : ONE w gi (.slice A 0 c) 225) : Calls Tryz.prog 182 #[.pointer (some ⟨gi, 0, none⟩), .pointer (some ⟨gz, 0, none⟩)] w fun e w' => e = .returned (.bool false) ∧ w = w' := by
  obtain ⟨c0, f0⟩ := h.cell
  clear h
  go_enter Tryz.func182, Tryz.ntmps182
  go_wp2
  go_ret
  exact ⟨rfl, rfl⟩
def NextIs (gi gz g off m : Nat) (u : Value) (w : World) (e : Ending) (w' : World) : Prop := e = .returned (.bool true) ∧ ∃ off' c', (m = 0 ∨ off' = off + 1) ∧ m ≤ c' ∧ c' ≤ 9223372036854775807 ∧ (w.setCell ⟨gz, 0, none⟩ u).setCell ⟨gi, 0, none⟩ (.slice (some ⟨g, off', none⟩) m c') = w'
set_option maxRecDepth 100000 in
theorem f182_next (gi gz g off m c : Nat) (T : TypeId) (x z : Value) (hm : m + 1 ≤ c) (hc : c ≤ 9223372036854775807) (hne : gi ≠ gz) (w : World) (h : ONE w gi (.slice (some ⟨g, off, none⟩) (m + 1) c) 225) (hz : ONE w gz z 41) (hu : w.cell? ⟨g, off, none⟩ = some (.iface T x)) :
    Calls Tryz.prog 182 #[.pointer (some ⟨gi, 0, none⟩), .pointer (some ⟨gz, 0, none⟩)] w (NextIs gi gz g off m (.iface T x) w) := by
  obtain ⟨c0, f0⟩ := h.cell
  obtain ⟨z0, z1⟩ := hz.cell
  have k0 : (w.setCell ⟨gz, 0, none⟩ (.iface T x)).cell? ⟨gi, 0, none⟩ = some (.slice (some ⟨g, off, none⟩) (m + 1) c) := (h.other (by simpa using hne) _).cell.1
  have k1 : (w.setCell ⟨gz, 0, none⟩ (.iface T x)).frozen? ⟨gi, 0, none⟩ = false := (h.other (by simpa using hne) _).cell.2
  clear h hz
  by_cases h1 : c = 1
  · obtain rfl : m = 0 := by omega
    subst h1
    go_enter Tryz.func182, Tryz.ntmps182
    go_wp2
    go_ret
    exact ⟨rfl, off, 0, .inl rfl, Nat.le_refl _, by omega, rfl⟩
  · have hc1 : 1 < c := by omega
    go_enter Tryz.func182, Tryz.ntmps182
    go_wp2
    go_ret
    exact ⟨rfl, off + 1, c - 1, .inr rfl, by omega, by omega, rfl⟩
theorem ONE.grown {X w : World} {b : Nat} {v : Value} {t : TypeId} {r : Option Nat} (h : ONE X b v t) (hg : X.grownBy w r) (hne : some b ≠ r) : ONE w b v t := (hg.block b h.lt hne).trans h
/-- What the loop holds: so many elements are over. -/
structure TupleAt (A0 : Option Addr) (B : Nat) (ok : Nat → Prop) (gl : Nat) (qs rs : Ps) (w : World) (k : Nat) (v : Value) (A : Option Addr) (cc : Nat) (z : Value) (wr : World) : Prop where
  list : LIST B ok wr gl v (qs ++ rs.take k)
  n0 : v.ownBlock ≠ some w.heap.size
  n1 : v.ownBlock ≠ some (w.heap.size + 1)
  it : ONE wr w.heap.size (.slice A (rs.length - k) cc) 225
  var : ONE wr (w.heap.size + 1) z 41
  at_ : ∀ hk : k < rs.length, ∃ g2, A = some ⟨g2, k, none⟩ ∧ A0 = some ⟨g2, 0, none⟩ ∧ wr.cell? ⟨g2, k, none⟩ = some (rs[k]).1 ∧ KP ok wr (rs[k]).1 (rs[k]).2
  cap : rs.length - k ≤ cc
  cap2 : cc ≤ 9223372036854775807
  same : Same ok w wr
  bel : Below B w wr
  size : w.heap.size + 2 ≤ wr.heap.size
/-- Behind Next: the element is in the variable, the iterator has gone on. -/
structure TupleMid (B : Nat) (ok : Nat → Prop) (gl : Nat) (qs rs : Ps) (w : World) (k : Nat) (v u : Value) (s : Sc) (g2 off cc : Nat) (w1 : World) : Prop where
  list : LIST B ok w1 gl v (qs ++ rs.take k)
  n0 : v.ownBlock ≠ some w.heap.size
  n1 : v.ownBlock ≠ some (w.heap.size + 1)
  it : ONE w1 w.heap.size (.slice (some ⟨g2, off, none⟩) (rs.length - (k + 1)) cc) 225
  var : ONE w1 (w.heap.size + 1) u 41
  kp : KP ok w1 u s
  cap : rs.length - (k + 1) ≤ cc
  same : Same ok w w1
  bel : Below B w w1
  size : w.heap.size + 2 ≤ w1.heap.size
theorem TupleAt.step {A0 : Option Addr} {B : Nat} {ok : Nat → Prop} {gl : Nat} {qs rs : Ps} {w : World} {k : Nat} {v : Value} {A : Option Addr} {cc : Nat} {z : Value} {wr : World} (h : TupleAt A0 B ok gl qs rs w k v A cc z wr) (hok : ∀ b, ok b → b < w.heap.size) (hgl : gl < w.heap.size) (hB : B ≤ w.heap.size)
    {u : Value} {s : Sc} (hu : KP ok wr u s) {g2 off c : Nat} (hc : rs.length - (k + 1) ≤ c) {w1 : World} (hw : (wr.setCell ⟨w.heap.size + 1, 0, none⟩ u).setCell ⟨w.heap.size, 0, none⟩ (.slice (some ⟨g2, off, none⟩) (rs.length - (k + 1)) c) = w1) :
    TupleMid B ok gl qs rs w k v u s g2 off c w1 := by
  subst hw
  have k0 : ¬ ok w.heap.size := fun h => Nat.lt_irrefl _ (hok _ h)
  have k1 : ¬ ok (w.heap.size + 1) := fun h => by have := hok _ h; omega
  have sm : Same ok wr ((wr.setCell ⟨w.heap.size + 1, 0, none⟩ u).setCell ⟨w.heap.size, 0, none⟩ (.slice (some ⟨g2, off, none⟩) (rs.length - (k + 1)) c)) := (Same.set _ _ _ k1).trans (Same.set _ _ _ k0)
  refine ⟨(h.list.set _ _ k1 (by show gl ≠ w.heap.size + 1; omega) h.n1).set _ _ k0 (by show gl ≠ w.heap.size; omega) h.n0, h.n0, h.n1, (h.it.other (by show w.heap.size ≠ w.heap.size + 1; omega) _).set _, (h.var.set _).other (by show w.heap.size + 1 ≠ w.heap.size; omega) _, hu.same sm, hc, h.same.trans sm, (h.bel.setCell (by show B ≤ w.heap.size + 1; omega) _).setCell (by show B ≤ w.heap.size; omega) _, ?_⟩
  simpa using h.size
theorem TupleMid.next {A0 : Option Addr} {B : Nat} {ok : Nat → Prop} {gl : Nat} {qs rs : Ps} {w : World} {k : Nat} {v u : Value} {s : Sc} {g2 off cc : Nat} {w1 : World} (h : TupleMid B ok gl qs rs w k v u s g2 off cc w1) (hok : ∀ b, ok b → b < w.heap.size) (hgl : gl < w.heap.size)
    (hk : k < rs.length) (hus : (u, s) = rs[k]) {X w2 : World} (hX : Below w1.heap.size w1 X) {v' : Value} (ho : w2.ownsRow B 41 1 v' ((qs ++ rs.take k).length + 1) (flat (qs ++ rs.take k) ++ [u])) (hg : X.grownBy w2 v.ownBlock) (hv : BlockOf X v v')
    (hrow : ∀ hk : k + 1 < rs.length, A0 = some ⟨g2, 0, none⟩ ∧ ok g2 ∧ off = k + 1 ∧ w.cell? ⟨g2, k + 1, none⟩ = some (rs[k + 1]).1 ∧ KP ok w (rs[k + 1]).1 (rs[k + 1]).2) (hc : cc ≤ 9223372036854775807) :
    TupleAt A0 B ok gl qs rs w (k + 1) v' (some ⟨g2, off, none⟩) cc u (w2.setCell ⟨gl, 0, none⟩ v') := by
  have hz1 : w.heap.size + 2 ≤ X.heap.size := Nat.le_trans h.size hX.size
  have hc1 := h.kp.cells1.1
  have L := h.list.grow (rs := [(u, s)]) hX (by simpa [flat, hc1] using ho) hg hv (fun p hp => by obtain rfl := List.mem_singleton.1 hp; exact h.kp)
  have e : qs ++ rs.take k ++ [(u, s)] = qs ++ rs.take (k + 1) := by rw [List.take_succ_eq_append_getElem hk, hus, List.append_assoc]
  have sm : Same ok w1 (w2.setCell ⟨gl, 0, none⟩ v') := ((Same.below hX).trans (.grown hg fun b hb => h.list.kl.2.1 b hb)).trans (Same.set _ _ _ h.list.notok)
  have sw := h.same.trans sm
  have kept : ∀ b t x, ONE w1 b x t → v.ownBlock ≠ some b → b ≠ gl → ONE (w2.setCell ⟨gl, 0, none⟩ v') b x t := fun b t x hb hn hn2 => ((hb.below hX).grown hg (fun e => hn e.symm)).other hn2 _
  refine ⟨e ▸ L, hv.ne (by omega) h.n0, hv.ne (by omega) h.n1, kept _ _ _ h.it h.n0 (by omega), kept _ _ _ h.var h.n1 (by omega), ?_, h.cap, hc, sw, ?_, ?_⟩
  · intro hk1
    obtain ⟨h0, h1, h2, h3, h4⟩ := hrow hk1
    exact ⟨g2, by rw [h2], h0, (World.cell?_of_block (w := w) (sw.2 g2 h1 (hok _ h1))).trans h3, h4.same sw⟩
  · exact ((h.bel.trans (hX.mono (by have := h.bel.size; have := h.list.lt; have := h.list.base; omega))).grown hg (by have := h.list.base; omega) fun b hb => (h.list.kl.1.lt b hb).1).setCell h.list.base _
  · have := hg.size; simp; omega
def OnlyN (Q : Exit → Act → World → Prop) : Exit → Act → World → Prop
  | .normal, a, w => Q .normal a w
  | _, _, _ => False
theorem only_normal {P : Program} {c : Code} {Q : Exit → Act → World → Prop} {a : Act} {w : World} (h : c.wp P (OnlyN Q) a w) : c.wp P Q a w :=
  Code.wp_mono (fun e a w h => by cases e <;> first | exact h | exact h.elim) h
set_option maxRecDepth 100000 in
set_option maxHeartbeats 8000000 in
theorem f39_tuple (B B2 : Nat) (ok okr : Nat → Prop) (gl : Nat) (v : Value) (qs rs : Ps) (hq : qs.length ≤ 100) (hrl : rs.length ≤ 100) (A : Option Addr) (n c : Nat) (w : World) (h : LIST B ok w gl v qs)
    (hr : KL B2 okr w (.slice A n c) rs) (hsub : ∀ b, okr b → ok b) (hg2 : ∀ g, (Value.slice A n c).ownBlock = some g → ok g) :
    Calls Tryz.prog 39 #[.pointer (some ⟨gl, 0, none⟩), .iface 39 (.slice A n c)] w (GrownTo B ok gl (qs ++ rs) w) := by
  have ta : ∀ w, (Instr.typeAssert (.iface 39 (.slice A n c)) 89 33 true).run Tryz.prog w = .ok (.tuple #[.pointer none, .bool false]) w := fun _ => by kernel_rfl
  obtain ⟨i0, hi, hz0, hz1, hz2⟩ := info_parts infoK
  have HL := Lib.hid h
  have HR := Lib.hid hr
  have HG := Lib.hid hg2
  have HS := Lib.hid hsub
  have HC : Hid (c ≤ 9223372036854775807) := by
    rcases hr.1.2 with ⟨h1, h2⟩ | ⟨g', cap, cur, h1, _, _, _, h5, _⟩
    · cases h1; show _ ≤ _; omega
    · cases h1; exact h5
  have HOK := Lib.hid h.kl.2.2.1
  have HBZ : Hid (B ≤ w.heap.size) := Nat.le_of_lt (Nat.lt_of_le_of_lt h.base h.lt)
  clear h hr hg2 hsub
  have m1 : ∀ w, (method 367 39 (.slice A n c) "Iterate").run Tryz.prog w = .ok (128, .slice A n c) w := fun _ => by kernel_rfl
  have m2 : ∀ (b : Nat) w, (method 367 223 (.pointer (some ⟨b, 0, none⟩)) "Next").run Tryz.prog w = .ok (182, .pointer (some ⟨b, 0, none⟩)) w := fun _ _ => by kernel_rfl
  have m3 : ∀ (b : Nat) w, (method 367 223 (.pointer (some ⟨b, 0, none⟩)) "Done").run Tryz.prog w = .ok (181, .pointer (some ⟨b, 0, none⟩)) w := fun _ _ => by kernel_rfl
  have D3 := Lib.hid (fun (b : Nat) (w : World) => (show (invoke (.fn (.method "Done") #[]) #[.iface 223 (.pointer (some ⟨b, 0, none⟩))]).run Tryz.prog w = .ok (.enter 181 #[.pointer (some ⟨b, 0, none⟩)]) w by kernel_rfl))
  go_enter_defers Tryz.func39, Tryz.ntmps39
  go_wp2_with (go_at_call 128; refine (f128_any _ _ _ _).mono ?_; rintro e w' ⟨rfl, rfl⟩)
  go_loopg [30] rs.length (fun g _ wr => ∃ (k : Nat) (v : Value) (AA : Option Addr) (cc : Nat) (z : Value), k ≤ rs.length ∧ g = rs.length - k ∧ Hid (TupleAt A B ok gl qs rs w k v AA cc z wr))
  case atStart =>
    obtain rfl : n = rs.length := by
      rcases HR.out.1.2 with ⟨h1, h2⟩ | ⟨g', cap, cur, h1, _⟩
      · cases h1; omega
      · cases h1; rfl
    have hb0 : Below w.heap.size w ((w.alloc (.cells #[.slice A rs.length c] 225)).alloc (.cells #[.nilIface] 41)) := ((Below.refl _ _).alloc (Nat.le_refl _) _).alloc (by simp) _
    have hlist := HL.out.below hb0
    have hc : rs.length ≤ c := by
      rcases HR.out.1.2 with ⟨h1, h2⟩ | ⟨g', cap, cur, h1, _, _, h5, _⟩
      · omega
      · cases h1; exact h5
    refine ⟨0, v, A, c, .nilIface, Nat.zero_le _, rfl, ⟨by simpa using hlist, fun he => ?_, fun he => ?_, ?_, ?_, fun hk => ?_, by omega, HC.out, .below hb0, hb0.mono HBZ.out, by simp⟩⟩
    · have := (HL.out.kl.1.lt _ he).2; omega
    · have := (HL.out.kl.1.lt _ he).2; omega
    · exact (((Below.refl (w.heap.size + 1) _).alloc (by simp) _).block w.heap.size (by omega)).trans (heap_alloc_new w _)
    · have := heap_alloc_new (w.alloc (.cells #[.slice A rs.length c] 225)) (.cells #[.nilIface] 41)
      rw [World.size_alloc] at this
      exact this
    · obtain ⟨g2, rfl, _⟩ := own_formS HR.out.1 (by omega)
      obtain ⟨r1, r2⟩ := HR.out.at 0 hk
      exact ⟨g2, rfl, rfl, (hb0.cell (p := ⟨g2, 0, none⟩) (World.block_lt_of_cell? w _ r1)).trans r1, (r2.mono HS.out).same (.below hb0)⟩
  case round =>
    obtain ⟨k, v, AA, cc, z, hk, rfl, HT⟩ := hrel
    by_cases hlt : k < rs.length
    · obtain ⟨g2, rfl, rfl, hcell, hkp⟩ := HT.out.at_ hlt
      obtain ⟨T, x, hx⟩ := hkp.form
      have HKP := Lib.hid hkp
      have HX := Lib.hid hx
      rw [hx] at hcell
      clear hkp
      have hit := HT.out.it
      rw [show rs.length - k = rs.length - (k + 1) + 1 by omega] at hit
      have H182 := Lib.hid (f182_next w.heap.size (w.heap.size + 1) g2 k (rs.length - (k + 1)) cc T x z (by have := HT.out.cap; omega) HT.out.cap2 (by omega) wr hit HT.out.var hcell)
      clear hit hx hcell
      go_wp2_with fail
      go_at_call 182
      refine H182.out.mono ?_
      rintro e w1 ⟨rfl, off', c', ho, hm, hc2, hw⟩
      have HC2 := Lib.hid hc2
      have HROW : Hid (∀ hk : k + 1 < rs.length, (some ⟨g2, 0, none⟩ : Option Addr) = some ⟨g2, 0, none⟩ ∧ ok g2 ∧ off' = k + 1 ∧ w.cell? ⟨g2, k + 1, none⟩ = some (rs[k + 1]).1 ∧ KP ok w (rs[k + 1]).1 (rs[k + 1]).2) := fun hk => by
        obtain ⟨r1, r2⟩ := HR.out.at (k + 1) hk
        exact ⟨rfl, HG.out g2 rfl, by omega, r1, r2.mono HS.out⟩
      have HM := Lib.hid (HT.out.step HOK.out HL.out.lt HBZ.out (by have := HKP.out; rwa [HX.out] at this) hm hw)
      have HO := Lib.hid ho
      clear hw ho hc2
      obtain ⟨VA, VC, rfl⟩ := own_len HM.out.list.kl.1
      have HLN : Hid ((qs ++ rs.take k).length ≤ 200) := by show _ ≤ _; rw [List.length_append, List.length_take]; omega
      have HOWN : Hid ((w1.alloc (.cells #[.iface T x] 41)).ownsRow B 41 1 (.slice VA (qs ++ rs.take k).length VC) (qs ++ rs.take k).length (flat (qs ++ rs.take k))) := HM.out.list.kl.1.alloc _
      have HXB : Hid (Below w1.heap.size w1 (w1.alloc (.cells #[.iface T x] 41)).drew) := ((Below.refl _ _).alloc (Nat.le_refl _) _).drew
      generalize hL : (qs ++ rs.take k).length = L at *
      have HLL := Lib.hid hL
      clear hL
      obtain ⟨c0, -, -, f0⟩ := HM.out.list.cells
      obtain ⟨z0, -⟩ := HM.out.var.cell
      have f0 := f0 0
      have xc : (w1.alloc (.cells #[.iface T x] 41)).cell? ⟨gl, 0, none⟩ = some (.slice VA L VC) := (HXB.out.cell (p := ⟨gl, 0, none⟩) HM.out.list.lt).trans c0
      have K63 : L + 1 ≤ maxLen := by have := HLN.out; unfold maxLen; omega
      have K16 : (L + 1) * 16 ≤ 140737488355328 := by have := HLN.out; omega
      have KH := Lib.hid (And.intro K63 K16)
      have HBX : Hid (B ≤ w1.heap.size) := by have := HBZ.out; have := HM.out.size; show _ ≤ _; omega
      clear K63 K16
      go_wp2
      refine only_normal ?_
      go_region_law ((refine step_append_blk rfl (.tmp 36) (.tmp 38) 36 rfl B 41 i0 .nilIface 1 16 Tryz.underlying36 hi hz0 hz1 hz2 rfl (by decide) (.slice VA L VC) L (flat (qs ++ rs.take k)) (by rfl) (own_heap HOWN.out rfl) (.slice (some ⟨w1.heap.size, 0, none⟩) 1 1) 1 [.iface T x] (by rfl) (.inr ⟨_, _, rfl, World.news_of_block (heap_alloc_new w1 _)⟩) rfl (by intro y hy; obtain rfl := List.mem_singleton.1 hy; rfl) KH.out.1 KH.out.2 (Nat.le_trans HBX.out (by simp)) ?_); intro v' w2 ho2 hg2 hv2; obtain ⟨A2, C2, rfl⟩ := own_len ho2; have y0 := (hg2.block gl (Nat.lt_of_lt_of_le HM.out.list.lt HXB.out.size) (fun e => HM.out.list.apart e.symm)).trans (HXB.out.block gl HM.out.list.lt); have yc := (World.cell?_of_block (a := ⟨gl, 0, none⟩) y0).trans HM.out.list.cells.1; have yf : w2.frozen? ⟨gl, 0, none⟩ = false := (World.frozen?_of_block (a := ⟨gl, 0, none⟩) y0).trans (HM.out.list.cells.2.2.2 0); have HO2 := Lib.hid ho2; have HG2 := Lib.hid hg2; have HV2 := Lib.hid hv2; clear ho2 hg2 hv2 y0)
      all_goals
        have HN := Lib.hid (HM.out.next HOK.out HL.out.lt hlt (by rw [← HX.out]) HXB.out (by rw [HLL.out]; exact HO2.out) HG2.out HV2.out (fun hk => ⟨rfl, (HROW.out hk).2⟩) HC2.out)
        clear c0 z0 xc yc yf f0 HO2 HG2 HV2 HOWN HXB HROW HM HT
        unfold OnlyN
        go_wp2
        go_roundg (rs.length - (k + 1))
        case rel => exact ⟨k + 1, _, _, _, _, by omega, rfl, HN⟩
        case measure => omega
    · obtain rfl : k = rs.length := by omega
      have hit := HT.out.it
      rw [Nat.sub_self] at hit
      have H182 := Lib.hid (f182_done w.heap.size (w.heap.size + 1) AA cc wr hit)
      clear hit
      go_wp2_with fail
      go_at_call 182
      refine H182.out.mono ?_
      rintro e w' ⟨rfl, rfl⟩
      go_wp2
      refine leaves_cons (f := 181) (args := #[.pointer (some ⟨w.heap.size, 0, none⟩)]) (by simp) (by exact D3.out _ _) ?_
      refine (f181_any _ .returning _).mono ?_
      rintro e u' w'' ⟨rfl, rfl, rfl⟩
      exact ⟨_, results_none rfl _ _ _, rfl, v, by have := HT.out.list; rwa [List.take_length] at this, HT.out.bel⟩
end Go.Proofs.YtllgogkjcbdpkaaGreat
