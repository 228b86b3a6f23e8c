/- The package's extend: a list behind itself; a tuple behind a list. -/
import Derived.Test.YtllgogkjcbdpkaaGreatLe
import Derived.Laws.Rows
import Derived.Defers
import Derived.Deep.RegionLaw
import Derived.RegionTactic
namespace Go.Proofs.YtllgogkjcbdpkaaGreat
open Go.RowKit
open Z (Row VInt KInt BInt IsB IsW smallB MakesV MakesS MakesK)

theorem own_other {w : World} {base : Nat} {e : TypeId} {size : Nat} {v : Value} {n : Nat} {xs : List Value} (h : w.ownsRow base e size v n xs) {a : Addr} (ha : v.ownBlock ≠ some a.block) (u : Value) : (w.setCell a u).ownsRow base e size v n xs := by
  refine ⟨h.1, ?_⟩
  rcases h.2 with h2 | ⟨g, cap, cur, p, q, r, t⟩
  · exact .inl h2
  · subst p
    exact .inr ⟨g, cap, cur, rfl, q, by rw [Below.heap_setCell w a u g (fun e => ha (e ▸ rfl))]; exact r, t⟩
theorem flat_append (a b : Ps) : flat (a ++ b) = flat a ++ flat b := by simp [flat]
theorem BlockOf.ne {w : World} {v v' : Value} {g : Nat} (h : BlockOf w v v') (hg : g < w.heap.size) (hn : v.ownBlock ≠ some g) : v'.ownBlock ≠ some g := by
  intro he
  rcases h with h | ⟨b, h, hb⟩
  · exact hn (h.symm.trans he)
  · rw [h] at he; cases he; omega
/-- The list's elements are written anew: an append onto them, then the store into the object. -/
theorem LIST.grow {B : Nat} {ok : Nat → Prop} {w X w1 : World} {gl : Nat} {v v' : Value} {qs rs : Ps} (h : LIST B ok w gl v qs) (hX : Below w.heap.size w X) (ho : w1.ownsRow B 41 1 v' (qs.length + rs.length) (flat qs ++ flat rs)) (hg : X.grownBy w1 v.ownBlock) (hv : BlockOf X v v')
    (hr : ∀ p ∈ rs, KP ok w p.1 p.2) : LIST B ok (w1.setCell ⟨gl, 0, none⟩ v') gl v' (qs ++ rs) := by
  have s1 : Same ok w w1 := (Same.below hX).trans (.grown hg fun k hk => h.kl.2.1 k hk)
  have hne : v'.ownBlock ≠ some gl := hv.ne (Nat.lt_of_lt_of_le h.lt hX.size) h.apart
  have s2 : Same ok w (w1.setCell ⟨gl, 0, none⟩ v') := s1.trans (Same.set w1 ⟨gl, 0, none⟩ v' h.notok)
  have hobj : w1.heap[gl]? = some (.cells #[v, .bool false, .int .u32 0] 69 (0, 0)) := (hg.block gl (Nat.lt_of_lt_of_le h.lt hX.size) (fun e => h.apart e.symm)).trans ((hX.block gl h.lt).trans h.obj)
  refine ⟨⟨?_, ?_, ?_, ?_⟩, ?_, h.base, h.notok, hne⟩
  · rw [flat_append, List.length_append]
    exact own_other ho hne _
  · intro g hg2 hk
    rcases hv with hv | ⟨b, hv, hb⟩
    · exact h.kl.2.1 g (hv ▸ hg2) hk
    · rw [hv] at hg2; cases hg2
      have := h.kl.2.2.1 _ hk; have := hX.size; omega
  · intro b hk
    exact Nat.lt_of_lt_of_le (h.kl.2.2.1 b hk) s2.1
  · intro p hp
    rcases List.mem_append.1 hp with hp | hp
    · exact (h.kl.2.2.2 p hp).same s2
    · exact (hr p hp).same s2
  · rw [heap_setCell_same w1 gl 0 _ 69 v' hobj]; rfl
/-- What extend leaves. -/
def GrownTo (B : Nat) (ok : Nat → Prop) (gl : Nat) (qs : Ps) (w : World) (e : Ending) (w' : World) : Prop := e = .returned (.tuple #[]) ∧ ∃ v', LIST B ok w' gl v' qs ∧ Below B w w'
set_option maxRecDepth 100000 in
set_option maxHeartbeats 4000000 in
theorem f39_own (B : Nat) (ok : Nat → Prop) (gl : Nat) (v : Value) (qs : Ps) (hq : qs.length ≤ 100) (w : World) (h : LIST B ok w gl v qs) :
    Calls Tryz.prog 39 #[.pointer (some ⟨gl, 0, none⟩), .iface 33 (.pointer (some ⟨gl, 0, none⟩))] w (GrownTo B ok gl (qs ++ qs) w) := by
  have ta : ∀ w, (Instr.typeAssert (.iface 33 (.pointer (some ⟨gl, 0, none⟩))) 89 33 true).run Tryz.prog w = .ok (.tuple #[.pointer (some ⟨gl, 0, none⟩), .bool true]) w := fun _ => by kernel_rfl
  obtain ⟨i0, hi, hz0, hz1, hz2⟩ := info_parts infoK
  obtain ⟨A, c, rfl⟩ := own_len h.kl.1
  obtain ⟨c0, -, -, hf⟩ := h.cells
  have HL := Lib.hid h
  have K63 : qs.length + qs.length ≤ maxLen := by unfold maxLen; omega
  have K16 : (qs.length + qs.length) * 16 ≤ 140737488355328 := by omega
  have KH := Lib.hid (And.intro K63 K16)
  have hone : ∀ u ∈ flat qs, u.oneCell' = true := fun u hu => by
    obtain ⟨p, hp, hu⟩ := List.mem_flatMap.1 hu
    have hc := (h.kl.2.2.2 p hp).cells1
    rw [hc.1] at hu
    obtain rfl := List.mem_singleton.1 hu
    exact hc.2
  have HON := Lib.hid hone
  have HF := Lib.hid hf
  clear h K63 K16 hone hf
  go_enter Tryz.func39, Tryz.ntmps39
  go_wp2
  have HZ : Hid (B ≤ w.heap.size) := Nat.le_of_lt (Nat.lt_of_le_of_lt HL.out.base HL.out.lt)
  have HLEN : Hid ((flat qs).length = qs.length * 1) := HL.out.kl.1.1
  go_region_law ((refine step_append_blk rfl (.tmp 18) (.tmp 22) 36 rfl B 41 i0 .nilIface 1 16 Tryz.underlying36 hi hz0 hz1 hz2 rfl (by decide) (.slice A qs.length c) qs.length (flat qs) (by rfl) (own_heap HL.out.kl.1 rfl) (.slice A qs.length c) qs.length (flat qs) (by rfl) (SrcAt.own (own_heap HL.out.kl.1 rfl)) HLEN.out HON.out KH.out.1 KH.out.2 HZ.out ?_); intro v' w1 ho hg hv; obtain ⟨A', c', rfl⟩ := own_len ho; have y0 := (hg.block gl HL.out.lt (fun e => HL.out.apart e.symm)); have yc : w1.cell? ⟨gl, 0, none⟩ = some (.slice A qs.length c) := (World.cell?_of_block y0).trans HL.out.cells.1; have yf : w1.frozen? ⟨gl, 0, none⟩ = false := (World.frozen?_of_block y0).trans (HF.out 0); have HO := Lib.hid ho; have HG := Lib.hid hg; have HV := Lib.hid hv; clear ho hg hv y0)
  all_goals
    go_wp2
    go_end0
    exact ⟨rfl, _, HL.out.grow (X := w.drew) (Below.refl _ _).drew HO.out HG.out HV.out HL.out.kl.2.2.2, (((Below.refl B w).drew).grown HG.out HZ.out fun k hk => (HL.out.kl.1.lt k hk).1).setCell HL.out.base _⟩
end Go.Proofs.YtllgogkjcbdpkaaGreat
