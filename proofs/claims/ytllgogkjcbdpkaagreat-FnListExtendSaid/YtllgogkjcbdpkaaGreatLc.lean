/- The laws' listOf: the first twelve values, cleaned. -/
import Derived.Test.YtllgogkjcbdpkaaGreatLb
namespace Go.Proofs.YtllgogkjcbdpkaaGreat
open Go.RowKit
open Z (Row VInt KInt BInt IsB IsW smallB MakesV MakesS)

/-- A slice of values among the arguments. -/
def ArgsL (w : World) (A : Option Addr) (n c : Nat) : Prop := n = 0 ∨ ∃ g off, A = some ⟨g, off, none⟩ ∧ n ≤ c ∧ ∀ i, i < n → ∃ k d s b t q, ArgV w (.agg #[k, d, s, b, t, q]) ∧
  w.cell? ⟨g, off + i * 6, none⟩ = some k ∧ w.cell? ⟨g, off + i * 6 + 1, none⟩ = some d ∧ w.cell? ⟨g, off + i * 6 + 2, none⟩ = some s ∧ w.cell? ⟨g, off + i * 6 + 3, none⟩ = some b ∧ w.cell? ⟨g, off + i * 6 + 4, none⟩ = some t ∧ w.cell? ⟨g, off + i * 6 + 5, none⟩ = some q
theorem ArgV.below {w w' : World} {v : Value} (h : ArgV w v) (hb : Below w.heap.size w w') : ArgV w' v := by
  obtain ⟨K, neg, mag, kids, bits, t, m, h1, h2, h3, h4, h5, h6⟩ := h
  exact ⟨K, neg, mag, kids, bits, t, m, h1, h2, h3, h4, h5, h6.below hb (Nat.le_refl _)⟩
def ListIs (w : World) (e : Ending) (w' : World) : Prop := ∃ v ps ok, e = .returned v ∧ VL w.heap.size ok w' v ps ∧ ps.length ≤ 12 ∧ Below w.heap.size w w'
theorem infoV : (Tryz.prog.info? 31).map (fun i => (i.zero, i.size, i.bytes)) = some (some (valOf 0 0 ⟨#[]⟩), 6, 88) := by kernel_rfl
set_option maxRecDepth 100000 in
set_option maxHeartbeats 4000000 in
theorem f4_any (A : Option Addr) (n c : Nat) (w : World) (h : ArgsL w A n c) : Calls Tryz.prog 4 #[.slice A n c] w (ListIs w) := by
  obtain ⟨i0, hi, hz0, hz1, hz2⟩ := info_parts infoV
  have HA := Lib.hid h
  clear h
  go_enter Tryz.func4, Tryz.ntmps4
  go_wp2
  go_loopw [3, 4] (fun v i wr => ∃ (k : Nat) (ps : Ps) (ok : Nat → Prop), i = .int .i64 k ∧ k ≤ n ∧ k ≤ 12 ∧ Hid (ps.length = k) ∧ Hid (VL w.heap.size ok wr v ps) ∧ Hid (Below w.heap.size w wr)) (fun _ i _ => 12 - (RowKit.intOf i).toNat)
  case atStart => exact ⟨0, [], _, rfl, Nat.zero_le _, by omega, rfl, GL.nil _ _ _ _ _, Below.refl _ _⟩
  case round =>
    obtain ⟨k, ps, ok, rfl, hk, hk2, HL, HV, HB⟩ := hrel
    obtain ⟨VA, VC, rfl⟩ := own_len HV.out.1
    by_cases hlt : k < n ∧ k < 12
    · obtain ⟨hk3, hk4⟩ := hlt
      obtain ⟨g, off, rfl, hnc, hc⟩ := HA.out.resolve_left (by omega)
      obtain ⟨x0, x1, x2, x3, x4, x5, hav, c0, c1, c2, c3, c4, c5⟩ := hc k hk3
      have c0 := cell_below c0 HB.out
      have c1 := cell_below c1 HB.out
      have c2 := cell_below c2 HB.out
      have c3 := cell_below c3 HB.out
      have c4 := cell_below c4 HB.out
      have c5 := cell_below c5 HB.out
      have H7 := Lib.hid (f7_any _ wr (hav.below HB.out))
      clear hc hav
      have K63 : ps.length + 1 ≤ maxLen := by have := HL.out; unfold maxLen; omega
      have K88 : (ps.length + 1) * 88 ≤ 140737488355328 := by have := HL.out; omega
      have KH := Lib.hid (And.intro K63 K88)
      clear K63 K88
      go_wp2_with fail
      go_at_call 7
      refine H7.out.mono ?_
      rintro e w1 ⟨u, s, rfl, hu, hb⟩
      obtain ⟨d, sa, sn, sc, q, t, rfl, hcs, hone⟩ := hu.cells6
      generalize Value.int .i64 (kindOf s) = y0 at *
      generalize Value.bool d = y1 at *
      generalize Value.slice sa sn sc = y2 at *
      generalize Value.int .u64 q = y3 at *
      generalize Value.string t = y4 at *
      have HU := Lib.hid hu
      have HB1 := Lib.hid hb
      have HCS := Lib.hid hcs
      have HON := Lib.hid hone
      have HBS : Hid (w.heap.size ≤ (w1.alloc (.cells #[y0, y1, y2, y3, y4, .slice none 0 0] 31)).heap.size) := by show _ ≤ _; have := HB.out.size; have := hb.size; simp; omega
      have HO : Hid ((w1.alloc (.cells #[y0, y1, y2, y3, y4, .slice none 0 0] 31)).ownsRow w.heap.size 31 6 (.slice VA ps.length VC) ps.length (flat ps)) := (own_below HV.out.1 hb).alloc _
      have HN : Hid (SrcAt (w1.alloc (.cells #[y0, y1, y2, y3, y4, .slice none 0 0] 31)) (.slice (some ⟨w1.heap.size, 0, none⟩) 1 1) 1 [y0, y1, y2, y3, y4, .slice none 0 0]) := .inr ⟨_, _, rfl, World.news_of_block (heap_alloc_new w1 _)⟩
      clear hu hb hcs hone c0 c1 c2 c3 c4 c5
      go_wp2_with (at_builtin; refine wpList_append_blk rfl (.tmp 15) (.tmp 21) 22 rfl w.heap.size 31 i0 (valOf 0 0 ⟨#[]⟩) 6 88 Tryz.underlying22 hi hz0 hz1 hz2 rfl (by decide) _ ps.length (flat ps) rfl HO.out _ 1 [y0, y1, y2, y3, y4, .slice none 0 0] rfl HN.out rfl (by intro u hu; exact HON.out u (by rw [HCS.out]; exact hu)) KH.out.1 KH.out.2 HBS.out ?_)
      intro v' w2 ho hg hv
      have R := GL.snoc goodV HV.out HB1.out ((Below.refl _ _).alloc (Nat.le_refl _) _) HU.out ho hg hv
      have HR := Lib.hid R
      have HG := Lib.hid (((HB.out.trans (HB1.out.mono HB.out.size)).alloc (by have := HB.out.size; have := HB1.out.size; omega) _).grown hg HBS.out fun k' hk' => (HO.out.lt k' hk').1)
      clear ho hg hv R
      go_wp2
      go_roundw
      case rel => exact ⟨k + 1, _, _, by go_num, by omega, by omega, by show _ = _; simp [HL.out], HR.out, HG.out⟩
      case measure => simp [RowKit.intOf]; omega
    · go_wp2
      all_goals
        go_ret
        exact ⟨_, ps, ok, rfl, HV.out, by rw [HL.out]; exact hk2, HB.out⟩
end Go.Proofs.YtllgogkjcbdpkaaGreat
