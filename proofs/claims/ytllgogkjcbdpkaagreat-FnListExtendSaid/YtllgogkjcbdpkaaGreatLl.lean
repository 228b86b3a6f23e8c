/- The reference's SameList. -/
import Derived.Test.YtllgogkjcbdpkaaGreatLk
import Derived.StillTailTactics
namespace Go.Proofs.YtllgogkjcbdpkaaGreat
open Go.RowKit
open Z (Row VInt KInt BInt IsB IsW smallB MakesV MakesS MakesK CmpIs)

set_option maxRecDepth 100000 in
set_option maxHeartbeats 8000000 in
theorem f6_any (B1 B2 : Nat) (ok1 ok2 : Nat → Prop) (v1 v2 : Value) (ps rs : Ps) (hp : ps.length ≤ 100) (hm : ps.map Prod.snd = rs.map Prod.snd) (w : World) (h1 : VL B1 ok1 w v1 ps) (h2 : VL B2 ok2 w v2 rs) : Calls Tryz.prog 6 #[v1, v2] w (TrueIs w) := by
  obtain ⟨A1, c1, rfl⟩ := own_len h1.1
  obtain ⟨A2, c2, rfl⟩ := own_len h2.1
  have hlen : rs.length = ps.length := by have := congrArg List.length hm; simpa using this.symm
  rw [hlen]
  obtain ⟨n, hn⟩ : ∃ n, n = ps.length := ⟨_, rfl⟩
  have hn1 : n ≤ 100 := by omega
  have HN := Lib.hid hn
  have HLEN := Lib.hid hlen
  have H1 := Lib.hid h1
  have H2 := Lib.hid h2
  have HM := Lib.hid hm
  rw [← hn]
  clear h1 h2 hm hlen hn
  go_enter Tryz.func6, Tryz.ntmps6
  go_wp2
  go_loopw [5] (fun i wr => ∃ k : Nat, i = .int .i64 k ∧ k ≤ n ∧ Hid (Below w.heap.size w wr)) (fun i _ => n - (RowKit.intOf i).toNat)
  case atStart => exact ⟨0, rfl, Nat.zero_le _, Below.refl _ _⟩
  case round =>
    obtain ⟨k, rfl, hk, HB⟩ := hrel
    by_cases hlt : k < n
    · have hk1 : k < ps.length := by have := HN.out; omega
      have hk2 : k < rs.length := by have := HN.out; have := HLEN.out; omega
      obtain ⟨g1, rfl, hg1⟩ := own_formS H1.out.1 (by omega)
      obtain ⟨g2, rfl, hg2⟩ := own_formS H2.out.1 (by omega)
      obtain ⟨d1, sa1, sn1, sc1, q1, t1, e1, p1, a0, a1, a2, a3, a4, a5⟩ := H1.out.at k hk1
      obtain ⟨d2, sa2, sn2, sc2, q2, t2, e2, p2, b0, b1, b2, b3, b4, b5⟩ := H2.out.at k hk2
      have a0 := cell_below a0 HB.out
      have a1 := cell_below a1 HB.out
      have a2 := cell_below a2 HB.out
      have a3 := cell_below a3 HB.out
      have a4 := cell_below a4 HB.out
      have a5 := cell_below a5 HB.out
      have b0 := cell_below b0 HB.out
      have b1 := cell_below b1 HB.out
      have b2 := cell_below b2 HB.out
      have b3 := cell_below b3 HB.out
      have b4 := cell_below b4 HB.out
      have b5 := cell_below b5 HB.out
      have es : (rs[k]).2 = (ps[k]).2 := by
        have := congrArg (fun l => l[k]?) HM.out
        simpa [hk1, hk2] using this.symm
      rw [e1] at p1
      rw [e2, es] at p2
      rw [es] at b0
      have H12 := Lib.hid (f12_any _ _ _ _ _ wr.drew (p1.same (.below HB.out.drew)) (p2.same (.below HB.out.drew)))
      clear p1 p2 e1 e2 es
      generalize Value.int .i64 (kindOf (ps[k]).2) = y0 at *
      generalize Value.bool d1 = y1 at *
      generalize Value.slice sa1 sn1 sc1 = y2 at *
      generalize Value.int .u64 q1 = y3 at *
      generalize Value.string t1 = y4 at *
      go_wp2
      go_still_tail 8, (by kernel_rfl)
      go_wp2_with fail
      go_at_call 12
      refine H12.out.mono ?_
      rintro e w1 ⟨rfl, hb⟩
      have HB1 := Lib.hid (HB.out.drew.trans (hb.mono HB.out.size))
      clear hb a0 a1 a2 a3 a4 a5 b0 b1 b2 b3 b4 b5
      go_wp2
      go_roundw
      case rel => exact ⟨k + 1, by go_num, by omega, HB1.out⟩
      case measure => simp [RowKit.intOf]; omega
    · go_wp2
      go_ret
      exact ⟨rfl, HB.out⟩
end Go.Proofs.YtllgogkjcbdpkaaGreat
