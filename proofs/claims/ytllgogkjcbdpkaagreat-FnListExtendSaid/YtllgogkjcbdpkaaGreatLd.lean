/- The thin package's scalars: one value, a list of them. -/
import Derived.Test.YtllgogkjcbdpkaaGreatLc
import Derived.Laws.FloatArith
import Derived.Laws.MakeOwn
namespace Go.Proofs.YtllgogkjcbdpkaaGreat
open Go.RowKit
open Z (Row VInt KInt BInt IsB IsW smallB MakesV MakesS MakesK)

theorem call45 (x : Nat) (w : World) : (callFunc 45 #[.int .u64 x]).run Tryz.prog w = .ok (.value (.float .f64 x)) w := by
  rw [run_callFunc_extern Tryz.func45 (by kernel_rfl) (by kernel_rfl) (by kernel_rfl) (e := Extern.MathFloatBits.float64frombits) (by kernel_rfl)]
  rfl
theorem call70 (x : Nat) (w : World) : (callFunc 70 #[.float .f64 x]).run Tryz.prog w = .ok (.value (.int .u64 x)) w := by
  rw [run_callFunc_extern Tryz.func70 (by kernel_rfl) (by kernel_rfl) (by kernel_rfl) (e := Extern.MathFloatBits.float64bits) (by kernel_rfl)]
  rfl
set_option maxRecDepth 100000 in
theorem f31_any (x : Nat) (w : World) : Calls Tryz.prog 31 #[.int .u64 x] w fun e w' => e = .returned (.float .f64 x) ∧ w = w' := by
  have hc := call45
  go_enter Tryz.func31, Tryz.ntmps31
  go_wp2
  go_ret
  exact ⟨rfl, rfl⟩
def NewK (w w' : World) (v : Value) (s : Sc) : Prop := KP (fun b => w.heap.size ≤ b ∧ b < w'.heap.size) w' v s
def ScalarIs (s : Sc) (w : World) (e : Ending) (w' : World) : Prop := ∃ v, e = .returned (.tuple #[v, .bool true]) ∧ NewK w w' v s ∧ Below w.heap.size w w'
set_option maxRecDepth 100000 in
set_option maxHeartbeats 4000000 in
theorem f19_any (v : Value) (s : Sc) (ok : Nat → Prop) (w : World) (h : VP ok w v s) : Calls Tryz.prog 19 #[.int .i64 (kindOf s), v] w (ScalarIs s w) := by
  cases s with
  | none =>
    obtain rfl := h
    unfold valOf kindOf
    go_enter Tryz.func19, Tryz.ntmps19
    go_wp2
    go_ret2
    exact ⟨_, rfl, rfl, (Below.refl _ _).alloc (Nat.le_refl _) _⟩
  | bool b =>
    obtain rfl := h
    unfold valOf kindOf
    cases b
    all_goals
      go_enter Tryz.func19, Tryz.ntmps19
      go_wp2
      go_quiet (fail)
      go_wp2
      go_ret2
      exact ⟨_, rfl, rfl, below_drewN ((Below.refl _ _).alloc (Nat.le_refl _) _) _⟩
  | int z =>
    have hv := h.int
    obtain ⟨sl, l, rfl, h2, h3, h4⟩ := h
    obtain ⟨a, c, rfl⟩ := h2.row.len
    unfold kindOf
    have H30 := Lib.hid (Z.f30_any 4000 (by omega) _ z 0 _ (hv.below ((Below.refl w.heap.size w).alloc (Nat.le_refl _) (.cells #[.int .i64 2, .bool (decide (z < 0)), .slice a l.length c, .int .u64 0, .string ⟨#[]⟩, .slice none 0 0] 31)) (Nat.le_refl _)))
    have HS : Hid (Short z) := ⟨l, h3, h4⟩
    clear h2 h3 h4 hv
    generalize decide (z < 0) = d at *
    go_enter Tryz.func19, Tryz.ntmps19
    go_wp2_with fail
    go_at_call 30
    refine H30.out.mono ?_
    rintro e w1 ⟨u, rfl, hk, hb⟩
    have HK := Lib.hid hk
    have HB := Lib.hid hb
    clear hk hb
    go_wp2
    go_ret2
    refine ⟨_, rfl, ⟨u, rfl, ?_, HS.out⟩, ?_⟩
    · exact (KIntP.of HK.out).mono fun b hb => ⟨by have := hb.1; simp at this; omega, hb.2⟩
    · exact ((Below.refl w.heap.size w).alloc (Nat.le_refl _) _).trans (HB.out.mono (by simp))
  | float n =>
    obtain ⟨rfl, hn⟩ := h
    unfold valOf kindOf
    have H31 := Lib.hid (f31_any n)
    go_enter Tryz.func19, Tryz.ntmps19
    go_wp2_with (go_at_call 31; refine (H31.out _).mono ?_; rintro e w1 ⟨rfl, rfl⟩)
    go_ret2
    exact ⟨_, rfl, ⟨rfl, hn⟩, (Below.refl _ _).alloc (Nat.le_refl _) _⟩
  | str t =>
    obtain rfl := h
    unfold valOf kindOf
    go_enter Tryz.func19, Tryz.ntmps19
    go_wp2
    go_ret2
    exact ⟨_, rfl, rfl, (Below.refl _ _).alloc (Nat.le_refl _) _⟩
  | bytes t =>
    obtain rfl := h
    unfold valOf kindOf
    go_enter Tryz.func19, Tryz.ntmps19
    go_wp2
    go_ret2
    exact ⟨_, rfl, rfl, (Below.refl _ _).alloc (Nat.le_refl _) _⟩
theorem infoK : (Tryz.prog.info? 41).map (fun i => (i.zero, i.size, i.bytes)) = some (some .nilIface, 1, 16) := by kernel_rfl
theorem KP.form {ok : Nat → Prop} {w : World} {v : Value} {s : Sc} (h : KP ok w v s) : ∃ T x, v = .iface T x := by
  cases s <;> first | (obtain rfl := h; exact ⟨_, _, rfl⟩) | (obtain ⟨rfl, _⟩ := h; exact ⟨_, _, rfl⟩) | (obtain ⟨u, rfl, _⟩ := h; exact ⟨_, _, rfl⟩)
/-- The values of a list, made ones of the package. -/
def ScalarsIs (ps : Ps) (w : World) (e : Ending) (w' : World) : Prop := ∃ v qs ok, e = .returned (.tuple #[v, .bool true]) ∧ KL w.heap.size ok w' v qs ∧ qs.map Prod.snd = ps.map Prod.snd ∧ Below w.heap.size w w' ∧ ∀ b, ok b → w.heap.size ≤ b
set_option maxRecDepth 100000 in
set_option maxHeartbeats 4000000 in
theorem f9_any (B : Nat) (ok : Nat → Prop) (w : World) (v : Value) (ps : Ps) (hp : ps.length ≤ 12) (h : VL B ok w v ps) : Calls Tryz.prog 9 #[v] w (ScalarsIs ps w) := by
  obtain ⟨i0, hi, hz0, hz1, hz2⟩ := info_parts infoK
  obtain ⟨A, c, rfl⟩ := own_len h.1
  have HA := Lib.hid h
  obtain ⟨n, hn⟩ : ∃ n, n = ps.length := ⟨_, rfl⟩
  have HNN := Lib.hid hn
  have hn12 : n ≤ 12 := by omega
  obtain ⟨w0, hmk, hown0, hg0⟩ := run_make_own (P := Tryz.prog) w w.heap.size 36 41 i0 .nilIface 1 Tryz.underlying36 hi hz0 hz1 .i64 .i64 n (by rw [hz2]; omega) (by unfold maxLen; omega) (Nat.le_refl _)
  have HO0 := Lib.hid hown0
  have HB0 : Hid (Below w.heap.size w w0) := (Below.refl _ _).grown hg0 (Nat.le_refl _) (fun k hk => by cases hk)
  clear hown0 hg0 h
  rw [← hn]
  clear hn
  go_enter Tryz.func9, Tryz.ntmps9
  go_wp2
  go_loopw [4, 14] (fun v i wr => ∃ (k : Nat) (qs : Ps) (ok' : Nat → Prop), i = .int .i64 k ∧ k ≤ n ∧ Hid (qs.length = k) ∧ Hid (qs.map Prod.snd = (ps.take k).map Prod.snd) ∧ Hid (KL w.heap.size ok' wr v qs) ∧ Hid (Below w.heap.size w wr) ∧ Hid (∀ b, ok' b → w.heap.size ≤ b)) (fun _ i _ => n - (RowKit.intOf i).toNat)
  case atStart => exact ⟨0, [], _, rfl, Nat.zero_le _, rfl, rfl, ⟨by simpa [flat] using HO0.out, fun g hg => id, fun b hb => False.elim hb, fun p hp => (by cases hp)⟩, HB0.out, fun b hb => False.elim hb⟩
  case round =>
    obtain ⟨k, qs, ok', rfl, hk, HL, HM, HV, HB, HK⟩ := hrel
    obtain ⟨VA, VC, rfl⟩ := own_len HV.out.1
    by_cases hlt : k < n
    · have hk3 : k < ps.length := by have := HNN.out; omega
      obtain ⟨g, rfl, hgl⟩ := own_formS HA.out.1 (by omega)
      obtain ⟨d, sa, sn, sc, q, t, hps, hvp, c0, c1, c2, c3, c4, c5⟩ := HA.out.at k hk3
      have c0 := cell_below c0 HB.out
      have c1 := cell_below c1 HB.out
      have c2 := cell_below c2 HB.out
      have c3 := cell_below c3 HB.out
      have c4 := cell_below c4 HB.out
      have c5 := cell_below c5 HB.out
      have hsk : (ps[k]).2 = (ps[k]'hk3).2 := rfl
      rw [hps] at hvp
      have H19 := Lib.hid (fun w1 (hb : Same ok w w1) => f19_any _ _ ok w1 (hvp.same hb))
      have HPS := Lib.hid hps
      clear hps hvp hsk
      have K63 : qs.length + 1 ≤ maxLen := by have := HL.out; unfold maxLen; omega
      have K16 : (qs.length + 1) * 16 ≤ 140737488355328 := by have := HL.out; omega
      have KH := Lib.hid (And.intro K63 K16)
      clear K63 K16
      go_wp2_with fail
      refine (H19.out _ ((Same.below HB.out).trans (Same.alloc _ _ _))).mono ?_
      rintro e w1 ⟨u, rfl, hu, hb⟩
      obtain ⟨hu1, hu2⟩ := hu.cells1
      obtain ⟨T, x, rfl⟩ := hu.form
      have HB1 : Hid (Below wr.heap.size wr w1) := ((Below.refl _ _).alloc (Nat.le_refl _) _).trans (hb.mono (by simp))
      have HU : Hid (KP (fun b => wr.heap.size ≤ b ∧ b < w1.heap.size) w1 (.iface T x) (ps[k]).2) := hu.mono fun b h => ⟨by have := h.1; simp at this; omega, h.2⟩
      have HU1 := Lib.hid hu1
      have HU2 := Lib.hid hu2
      have HO : Hid ((w1.alloc (.cells #[.iface T x] 41)).ownsRow w.heap.size 41 1 (.slice VA qs.length VC) qs.length (flat qs)) := (own_below HV.out.1 HB1.out).alloc _
      have HN : Hid (SrcAt (w1.alloc (.cells #[.iface T x] 41)) (.slice (some ⟨w1.heap.size, 0, none⟩) 1 1) 1 [.iface T x]) := .inr ⟨_, _, rfl, World.news_of_block (heap_alloc_new w1 _)⟩
      have HBS : Hid (w.heap.size ≤ (w1.alloc (.cells #[.iface T x] 41)).heap.size) := by show _ ≤ _; have := HB.out.size; have := HB1.out.size; simp; omega
      clear hu hb hu1 hu2 c0 c1 c2 c3 c4 c5
      go_wp2_with (at_builtin; refine wpList_append_blk rfl (.tmp 27) (.tmp 29) 36 rfl w.heap.size 41 i0 .nilIface 1 16 Tryz.underlying36 hi hz0 hz1 hz2 rfl (by decide) _ qs.length (flat qs) rfl HO.out _ 1 [.iface T x] rfl HN.out rfl (by intro y hy; obtain rfl := List.mem_singleton.1 hy; exact HU2.out) KH.out.1 KH.out.2 HBS.out ?_)
      intro v' w2 ho hg hv
      have R := GL.snoc goodK HV.out HB1.out ((Below.refl _ _).alloc (Nat.le_refl _) _) HU.out (by rw [HU1.out]; exact ho) hg hv
      have HR := Lib.hid R
      have HG := Lib.hid (((HB.out.trans (HB1.out.mono HB.out.size)).alloc (by have := HB.out.size; have := HB1.out.size; omega) _).grown hg HBS.out fun k' hk' => (HO.out.lt k' hk').1)
      have HM2 : Hid ((qs ++ [(Value.iface T x, (ps[k]).2)]).map Prod.snd = (ps.take (k + 1)).map Prod.snd) := by
        show _ = _
        rw [List.take_succ_eq_append_getElem hk3, List.map_append, List.map_append, HM.out]; rfl
      have HL2 : Hid ((qs ++ [(Value.iface T x, (ps[k]).2)]).length = k + 1) := by show _ = _; simp [HL.out]
      clear ho hg hv R
      go_wp2
      go_roundw
      case rel => exact ⟨k + 1, _, _, by go_num, by omega, HL2, HM2, HR.out, HG.out, fun b hb => hb.elim (HK.out b) fun h => Nat.le_trans HB.out.size h.1⟩
      case measure => simp [RowKit.intOf]; omega
    · go_wp2
      go_ret2
      exact ⟨_, qs, ok', rfl, HV.out, by rw [HM.out, List.take_of_length_le (by have := HNN.out; omega)], HB.out, HK.out⟩
end Go.Proofs.YtllgogkjcbdpkaaGreat
