/- The thin package's ListExtend. -/
import Derived.Test.YtllgogkjcbdpkaaGreatLi
namespace Go.Proofs.YtllgogkjcbdpkaaGreat
open Go.RowKit
open Z (Row VInt KInt BInt IsB IsW smallB MakesV MakesS MakesK)

theorem LIST.wide {B : Nat} {ok ok' : Nat → Prop} {w : World} {gl : Nat} {v : Value} {qs : Ps} (h : LIST B ok w gl v qs) (hs : ∀ b, ok b → ok' b) (hlt : ∀ b, ok' b → b < w.heap.size) (hgl : ¬ ok' gl) (hv : ∀ g, v.ownBlock = some g → ¬ ok' g) : LIST B ok' w gl v qs :=
  ⟨⟨h.kl.1, hv, hlt, fun p hp => (h.kl.2.2.2 p hp).mono hs⟩, h.obj, h.base, hgl, h.apart⟩
def ExtIs (out : List Sc) (w : World) (e : Ending) (w' : World) : Prop := ∃ v ps ok, e = .returned (.tuple #[v, .bool true, .bool true]) ∧ VL w.heap.size ok w' v ps ∧ ps.map Prod.snd = out ∧ Below w.heap.size w w'
theorem it33 (g : Nat) : ∀ w, (Instr.typeAssert (.iface 33 (.pointer (some ⟨g, 0, none⟩))) 41 89 true).run Tryz.prog w = .ok (.tuple #[.iface 33 (.pointer (some ⟨g, 0, none⟩)), .bool true]) w := fun _ => by kernel_rfl
theorem it39 (A : Option Addr) (n c : Nat) : ∀ w, (Instr.typeAssert (.iface 39 (.slice A n c)) 41 89 true).run Tryz.prog w = .ok (.tuple #[.iface 39 (.slice A n c), .bool true]) w := fun _ => by kernel_rfl
set_option maxRecDepth 100000 in
set_option maxHeartbeats 8000000 in
theorem f5_own (B B2 : Nat) (ok ok2 : Nat → Prop) (v1 v2 : Value) (ps rs : Ps) (hp : ps.length ≤ 12) (hr : rs.length ≤ 12) (w : World) (h1 : VL B ok w v1 ps) (h2 : VL B2 ok2 w v2 rs) :
    Calls Tryz.prog 5 #[v1, v2, .bool true] w (ExtIs (ps.map Prod.snd ++ ps.map Prod.snd) w) := by
  obtain ⟨A1, c1, rfl⟩ := own_len h1.1
  obtain ⟨A2, c2, rfl⟩ := own_len h2.1
  have H8 := Lib.hid (f8_any B ok w _ ps hp h1)
  have H9 := Lib.hid (fun w1 (hb : Below w.heap.size w w1) => f9_any B2 ok2 w1 _ rs hr (h2.below goodV hb))
  clear h1 h2
  go_enter Tryz.func5, Tryz.ntmps5
  go_wp2_with fail
  go_at_call 8
  refine H8.out.mono ?_
  rintro e w1 ⟨gl, v, qs, ok1, rfl, hl, hm, hb⟩
  have HL := Lib.hid hl
  have HM := Lib.hid hm
  have HB := Lib.hid hb
  have H9' := Lib.hid (H9.out w1 hb)
  clear hl hm hb H8 H9
  go_wp2_with fail
  go_at_call 9
  refine H9'.out.mono ?_
  rintro e w2 ⟨t, ts, ok3, rfl, hl2, hm2, hb2, hlow⟩
  obtain ⟨TA, TC, rfl⟩ := own_len hl2.1
  have HL2 := Lib.hid (HL.out.below hb2)
  have HK2 := Lib.hid hl2
  have HM2 := Lib.hid hm2
  have HB2 := Lib.hid (HB.out.trans (hb2.mono HB.out.size))
  have HBB := Lib.hid hb2
  have HLOW := Lib.hid hlow
  clear hl2 hm2 hb2 hlow H9'
  have hqs : qs.length ≤ 12 := by have := congrArg List.length HM.out; simp at this; omega
  have hts : ts.length ≤ 12 := by have := congrArg List.length HM2.out; simp at this; omega
  have bel3 : Below w2.heap.size w2 (w2.alloc (.cells #[.iface 33 (.pointer (some ⟨gl, 0, none⟩))] 41)) := (Below.refl _ _).alloc (Nat.le_refl _) _
  have H10 := Lib.hid (f10_any w.heap.size ok1 gl v qs (qs ++ qs) 33 (.pointer (some ⟨gl, 0, none⟩)) (it33 gl) w2.heap.size 1 (w2.alloc (.cells #[.iface 33 (.pointer (some ⟨gl, 0, none⟩))] 41)) (HL2.out.below bel3) (by simp [go_sem])
    (fun w4 h4 => f39_own w.heap.size ok1 gl v qs (by omega) w4 ((HL2.out.below bel3).below h4)))
  have HB3 := Lib.hid (HB2.out.trans (bel3.mono HB2.out.size))
  clear bel3
  go_wp2_with fail
  go_at_call 10
  refine H10.out.mono ?_
  rintro e w3 ⟨rfl, v', hl3, hb3⟩
  have HB4 := Lib.hid (HB3.out.trans hb3)
  have H11 := Lib.hid (f11_any w.heap.size _ gl v' (qs ++ qs) (by simp; omega) w3 hl3)
  clear hl3 hb3 H10
  go_wp2_with fail
  go_at_call 11
  refine H11.out.mono ?_
  rintro e w4 ⟨u, us, ok5, rfl, hv, hm5, hb5⟩
  obtain ⟨UA, UC, rfl⟩ := own_len hv.1
  have HV := Lib.hid (hv.le HB4.out.size)
  have HM5 := Lib.hid hm5
  have HB5 := Lib.hid (HB4.out.trans (hb5.mono HB4.out.size))
  clear hv hm5 hb5 H11
  go_wp2
  go_ret3
  exact ⟨_, us, ok5, rfl, HV.out, by rw [HM5.out, List.map_append, HM.out], HB5.out⟩
set_option maxRecDepth 100000 in
set_option maxHeartbeats 8000000 in
theorem f5_tuple (B B2 : Nat) (ok ok2 : Nat → Prop) (v1 v2 : Value) (ps rs : Ps) (hp : ps.length ≤ 12) (hr : rs.length ≤ 12) (w : World) (h1 : VL B ok w v1 ps) (h2 : VL B2 ok2 w v2 rs) :
    Calls Tryz.prog 5 #[v1, v2, .bool false] w (ExtIs (ps.map Prod.snd ++ rs.map Prod.snd) w) := by
  obtain ⟨A1, c1, rfl⟩ := own_len h1.1
  obtain ⟨A2, c2, rfl⟩ := own_len h2.1
  have H8 := Lib.hid (f8_any B ok w _ ps hp h1)
  have H9 := Lib.hid (fun w1 (hb : Below w.heap.size w w1) => f9_any B2 ok2 w1 _ rs hr (h2.below goodV hb))
  clear h1 h2
  go_enter Tryz.func5, Tryz.ntmps5
  go_wp2_with fail
  go_at_call 8
  refine H8.out.mono ?_
  rintro e w1 ⟨gl, v, qs, ok1, rfl, hl, hm, hb⟩
  have HL := Lib.hid hl
  have HM := Lib.hid hm
  have HB := Lib.hid hb
  have H9' := Lib.hid (H9.out w1 hb)
  clear hl hm hb H8 H9
  go_wp2_with fail
  go_at_call 9
  refine H9'.out.mono ?_
  rintro e w2 ⟨t, ts, ok3, rfl, hl2, hm2, hb2, hlow⟩
  obtain ⟨TA, TC, rfl⟩ := own_len hl2.1
  have HL2 := Lib.hid (HL.out.below hb2)
  have HK2 := Lib.hid hl2
  have HM2 := Lib.hid hm2
  have HB2 := Lib.hid (HB.out.trans (hb2.mono HB.out.size))
  have HBB := Lib.hid hb2
  have HLOW := Lib.hid hlow
  clear hl2 hm2 hb2 hlow H9'
  have hqs : qs.length ≤ 12 := by have := congrArg List.length HM.out; simp at this; omega
  have hts : ts.length ≤ 12 := by have := congrArg List.length HM2.out; simp at this; omega
  have bel3 : Below w2.heap.size w2 (w2.alloc (.cells #[.iface 39 (.slice TA ts.length TC)] 41)) := (Below.refl _ _).alloc (Nat.le_refl _) _
  have hw : LIST w.heap.size (fun b => ok1 b ∨ (w1.heap.size ≤ b ∧ b < w2.heap.size)) w2 gl v qs := HL2.out.wide (fun b hb => .inl hb) (fun b hb => hb.elim (fun h => HL2.out.kl.2.2.1 b h) fun h => h.2) (fun hb => hb.elim HL2.out.notok fun h => by have := HL.out.lt; omega) (fun g hg hb => hb.elim (HL2.out.kl.2.1 g hg) fun h => by have := (HL.out.kl.1.lt g hg).2; omega)
  have H10 := Lib.hid (f10_any w.heap.size (fun b => ok1 b ∨ (w1.heap.size ≤ b ∧ b < w2.heap.size)) gl v qs (qs ++ ts) 39 (.slice TA ts.length TC) (it39 TA ts.length TC) w2.heap.size 1 (w2.alloc (.cells #[.iface 39 (.slice TA ts.length TC)] 41)) (hw.below bel3) (by simp [go_sem])
    (fun w4 h4 => f39_tuple w.heap.size w1.heap.size (fun b => ok1 b ∨ (w1.heap.size ≤ b ∧ b < w2.heap.size)) ok3 gl v qs ts (by omega) (by omega) TA ts.length TC w4 ((hw.below bel3).below h4) ((HK2.out.below goodK bel3).below goodK h4) (fun b hb => .inr ⟨HLOW.out b hb, HK2.out.2.2.1 b hb⟩) (fun g hg => .inr (HK2.out.1.lt g hg))))
  clear hw
  have HB3 := Lib.hid (HB2.out.trans (bel3.mono HB2.out.size))
  clear bel3
  go_wp2_with fail
  go_at_call 10
  refine H10.out.mono ?_
  rintro e w3 ⟨rfl, v', hl3, hb3⟩
  have HB4 := Lib.hid (HB3.out.trans hb3)
  have H11 := Lib.hid (f11_any w.heap.size _ gl v' (qs ++ ts) (by simp; omega) w3 hl3)
  clear hl3 hb3 H10
  go_wp2_with fail
  go_at_call 11
  refine H11.out.mono ?_
  rintro e w4 ⟨u, us, ok5, rfl, hv, hm5, hb5⟩
  obtain ⟨UA, UC, rfl⟩ := own_len hv.1
  have HV := Lib.hid (hv.le HB4.out.size)
  have HM5 := Lib.hid hm5
  have HB5 := Lib.hid (HB4.out.trans (hb5.mono HB4.out.size))
  clear hv hm5 hb5 H11
  go_wp2
  go_ret3
  exact ⟨_, us, ok5, rfl, HV.out, by rw [HM5.out, List.map_append, HM.out, HM2.out], HB5.out⟩
end Go.Proofs.YtllgogkjcbdpkaaGreat
