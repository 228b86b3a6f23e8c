import Derived.Test.YtabeokminikfdaaGreatQBq
import Derived.Test.YtabeokminikfdaaGreatQBr
import Derived.Test.YtabeokminikfdaaGreatQBs
import Derived.Test.YtabeokminikfdaaGreatQEa
import Derived.Test.YtabeokminikfdaaGreatQA1
set_option linter.all false
set_option maxRecDepth 100000
set_option maxHeartbeats 8000000
namespace Go.Proofs.YtabeokminikfdaaGreat
open Go.RowKit
theorem fit_stmt (W : World) : ∀ d, FitS W (GS true W d) (SS d W)
 | 0 => fun _ _ _ _ _ h _ _ _ => h.elim
 | d + 1 => by
  have hF := fit_expr W d
  have hY := ys W d
  have hS : FitL W (GS true W d) (SS d W) := f10_any W _ _ (fit_stmt W d) fun _ h => h.sh
  intro s gf n deep w hs hp h0 h1
  have hsh := hs.sh
  obtain ⟨xk, xo, xt, ns, es, ps, bs, ls⟩ := s
  obtain ⟨⟨a1, n1, m1, rfl⟩, ⟨a2, n2, m2, rfl⟩, ⟨a3, n3, m3, rfl⟩, ⟨a4, n4, m4, rfl⟩, ⟨a5, n5, m5, rfl⟩⟩ := hsh
  obtain ⟨_, _, ht, hN, ⟨q5, hE⟩, ⟨q6, hP⟩, ⟨q7, hB⟩, ⟨q8, hL⟩⟩ := hs
  dsimp only at ht hN hE hP hB hL
  obtain rfl : n2 = q5 := by obtain ⟨_, _, h⟩ := SlAt.val hE; cases h; rfl
  obtain rfl : n3 = q6 := by obtain ⟨_, _, h⟩ := SlAt.val hP; cases h; rfl
  obtain rfl : n4 = q7 := by obtain ⟨_, _, h⟩ := SlAt.val hB; cases h; rfl
  obtain rfl : n5 = q8 := by obtain ⟨_, _, h⟩ := SlAt.val hL; cases h; rfl
  have hP' : SlAt W 3 (.slice a3 n3 m3) n3 fun _ cs => ∃ p : PV, cs = p.cells ∧ p.name.size ≤ maxLen ∧ ∃ m, SlAt W 11 p.dflt m fun _ cs' => ∃ k : EV, cs' = k.cells ∧ SE d W k := SlAt.mono hP fun _ _ _ ⟨p, hp, _, g2, m, g3⟩ => ⟨p, hp, g2, m, g3⟩
  refine fit_up (Q := fun m => ∃ t, ShS true W (GE W d) (GS true W d) (SV.mk xk xo xt (.slice a1 n1 m1) (.slice a2 n2 m2) (.slice a3 n3 m3) (.slice a4 n4 m4) (.slice a5 n5 m5)) t ∧ (t.size : Int) + 1 ≤ 3 * m + 3) ?_ fun m ⟨t, ht, hs⟩ => ⟨t, ⟨ht, ⟨_, _, _, rfl⟩, ⟨_, _, _, rfl⟩, ⟨_, _, _, rfl⟩, ⟨_, _, _, rfl⟩, ⟨_, _, _, rfl⟩⟩, hs⟩
  by_cases h_0 : xk = 0
  ·subst h_0
   exact f13_0 W _ _ _ _ hF hY hS xo xt a1 a2 a3 a4 a5 n1 n2 n3 n4 n5 m1 m2 m3 m4 m5 gf n deep w hN hE hP' hB hL ht hp h0 h1
  by_cases h_1 : xk = 1
  ·subst h_1
   exact f13_1 W _ _ _ _ hF hY hS xo xt a1 a2 a3 a4 a5 n1 n2 n3 n4 n5 m1 m2 m3 m4 m5 gf n deep w hN hE hP' hB hL ht hp h0 h1
  by_cases h_2 : xk = 2
  ·subst h_2
   exact f13_2 W _ _ _ _ hF hY hS xo xt a1 a2 a3 a4 a5 n1 n2 n3 n4 n5 m1 m2 m3 m4 m5 gf n deep w hN hE hP' hB hL ht hp h0 h1
  by_cases h_3 : xk = 3
  ·subst h_3
   exact f13_3 W _ _ _ _ hF hY hS xo xt a1 a2 a3 a4 a5 n1 n2 n3 n4 n5 m1 m2 m3 m4 m5 gf n deep w hN hE hP' hB hL ht hp h0 h1
  by_cases h_4 : xk = 4
  ·subst h_4
   exact f13_4 W _ _ _ _ hF hY hS xo xt a1 a2 a3 a4 a5 n1 n2 n3 n4 n5 m1 m2 m3 m4 m5 gf n deep w hN hE hP' hB hL ht hp h0 h1
  by_cases h_5 : xk = 5
  ·subst h_5
   exact f13_5 W _ _ _ _ hF hY hS xo xt a1 a2 a3 a4 a5 n1 n2 n3 n4 n5 m1 m2 m3 m4 m5 gf n deep w hN hE hP' hB hL ht hp h0 h1
  by_cases h_6 : xk = 6
  ·subst h_6
   exact f13_6 W _ _ _ _ hF hY hS xo xt a1 a2 a3 a4 a5 n1 n2 n3 n4 n5 m1 m2 m3 m4 m5 gf n deep w hN hE hP' hB hL ht hp h0 h1
  by_cases h_7 : xk = 7
  ·subst h_7
   exact f13_7 W _ _ _ _ hF hY hS xo xt a1 a2 a3 a4 a5 n1 n2 n3 n4 n5 m1 m2 m3 m4 m5 gf n deep w hN hE hP' hB hL ht hp h0 h1
  by_cases h_8 : xk = 8
  ·subst h_8
   exact f13_8 W _ _ _ _ hF hY hS xo xt a1 a2 a3 a4 a5 n1 n2 n3 n4 n5 m1 m2 m3 m4 m5 gf n deep w hN hE hP' hB hL ht hp h0 h1
  by_cases h_9 : xk = 9
  ·subst h_9
   exact f13_9 W _ _ _ _ hF hY hS xo xt a1 a2 a3 a4 a5 n1 n2 n3 n4 n5 m1 m2 m3 m4 m5 gf n deep w hN hE hP' hB hL ht hp h0 h1
  by_cases h_10 : xk = 10
  ·subst h_10
   exact f13_10 W _ _ _ _ hF hY hS xo xt a1 a2 a3 a4 a5 n1 n2 n3 n4 n5 m1 m2 m3 m4 m5 gf n deep w hN hE hP' hB hL ht hp h0 h1
  by_cases h_11 : xk = 11
  ·subst h_11
   exact f13_11 W _ _ _ _ hF hY hS xo xt a1 a2 a3 a4 a5 n1 n2 n3 n4 n5 m1 m2 m3 m4 m5 gf n deep w hN hE hP' hB hL ht hp h0 h1
  exact f13_no W _ _ _ _ hF hY hS xo xt a1 a2 a3 a4 a5 n1 n2 n3 n4 n5 m1 m2 m3 m4 m5 xk h_0 h_1 h_2 h_3 h_4 h_5 h_6 h_7 h_8 h_9 h_10 h_11 gf n deep w hN hE hP' hB hL ht hp h0 h1
end Go.Proofs.YtabeokminikfdaaGreat
namespace Go.Proofs.YtabeokminikfdaaGreat
open Go.RowKit
def SomeB4 (w : World) (e : Ending) (w' : World) : Prop := ∃ b, e = .returned (.bool b) ∧ Below w.heap.size w w'
theorem f4_any (nm : ByteArray) (a1 : Option Addr) (n1 m1 : Nat) (b0 b1 b2 b3 b4 b5 : Bool) (w : World) (hl : nm.size ≤ maxLen) (hn : n1 ≤ maxLen) : Calls Tryz.prog 4 #[.agg #[.string nm, .slice a1 n1 m1, .bool b0, .bool b1, .bool b2, .bool b3, .bool b4, .bool b5]] w (SomeB4 w) := by
 have hl' : nm.size ≤ 9223372036854775807 := by unfold maxLen at hl; omega
 have hn' : n1 ≤ 9223372036854775807 := by unfold maxLen at hn; omega
 clear hl hn
 go_enter Tryz.func4, Tryz.ntmps4
 go_wp2
 all_goals go_ret
 all_goals exact ⟨_, rfl, bA⟩
def FitsQ (W : World) (d : Nat) (v : Value) (w : World) (e : Ending) (w' : World) : Prop := ∃ b, e = .returned (.bool b) ∧ Below w.heap.size w w' ∧ (b = true → ∃ ts, RowOf W 8 (SQ (GS true W d)) v ts ∧ sizes ts ≤ 900)
theorem f5_any (W : World) (d : Nat) (nm : ByteArray) (a1 : Option Addr) (n1 m1 : Nat) (b0 b1 b2 b3 b4 b5 : Bool) (w : World) (hl : nm.size ≤ maxLen) (hv : SSs d W (.slice a1 n1 m1) n1) (hW : Below W.heap.size W w) : Calls Tryz.prog 5 #[.agg #[.string nm, .slice a1 n1 m1, .bool b0, .bool b1, .bool b2, .bool b3, .bool b4, .bool b5], .int .i64 300] w (FitsQ W d (.slice a1 n1 m1) w) := by
 have hl' : nm.size ≤ 9223372036854775807 := by unfold maxLen at hl; omega
 have HV := Lib.hid hv
 have HW := Lib.hid hW
 have HB : Hid (Below w.heap.size w ((w.alloc (.cells #[.string nm, .slice a1 n1 m1, .bool b0, .bool b1, .bool b2, .bool b3, .bool b4, .bool b5] 26)).alloc (.cells #[.int .i64 300] 38))) := Lib.hid (bA.alloc (Nat.le_of_lt (lt1 _ _)) _)
 have HP : Hid (FitPre W (w.heap.size + 1) 300 ((w.alloc (.cells #[.string nm, .slice a1 n1 m1, .bool b0, .bool b1, .bool b2, .bool b3, .bool b4, .bool b5] 26)).alloc (.cells #[.int .i64 300] 38))) := Lib.hid ⟨hW.trans (HB.out.mono hW.size), Nat.le_trans hW.size (Nat.le_succ _), new2 w _ _, by decide, by decide⟩
 clear hl hv hW
 by_cases h20 : nm.size ≤ 20
 ·have h20' : (nm.size : Int) ≤ 20 := by omega
  go_enter Tryz.func5, Tryz.ntmps5
  go_wp2_with fail
  refine (f10_any W _ _ (fit_stmt W d) (fun _ h => h.sh) _ n1 _ 300 0 _ HV.out HP.out (by decide) (by decide)).mono ?_
  rintro e w1 ⟨b, n', rfl, F, hq⟩
  have HF := Lib.hid F
  have HQ := Lib.hid hq
  clear F hq
  go_wp2
  go_ret
  refine ⟨b, rfl, ⟨HF.out.os.trans HB.out.os, HF.out.tape.trans HB.out.tape, HF.out.output.trans HB.out.output, Nat.le_trans HB.out.size HF.out.size, fun k hk => (HF.out.old k (Nat.lt_of_lt_of_le hk HB.out.size) (by omega)).trans (HB.out.block k hk)⟩, fun hb => ?_⟩
  obtain ⟨q0, q1, ts, q2, q3, q4⟩ := HQ.out hb
  exact ⟨ts, q3, by omega⟩
 ·have h20' : ¬ (nm.size : Int) ≤ 20 := by omega
  go_enter Tryz.func5, Tryz.ntmps5
  go_wp2
  go_ret
  exact ⟨false, rfl, bA, fun h => by cases h⟩
def NoLd (W : World) : Nat → SV → Prop
 | 0 => fun _ => False
 | d + 1 => fun s => s.kind ≠ 11 ∧ (∃ n, SlAt W 8 s.body n fun _ cs => ∃ k : SV, cs = k.cells ∧ NoLd W d k) ∧ ∃ n, SlAt W 8 s.els n fun _ cs => ∃ k : SV, cs = k.cells ∧ NoLd W d k
def PlainQ (W : World) (Y : SV → Prop) (v : Value) (n : Nat) (w : World) (e : Ending) (w' : World) : Prop := ∃ b, e = .returned (.bool b) ∧ Below w.heap.size w w' ∧ (b = true → SlAt W 8 v n fun _ cs => ∃ k : SV, cs = k.cells ∧ Y k)
def PlainAt (W : World) (Z Y : SV → Prop) : Prop := ∀ (v : Value) (n : Nat) (w : World), SlAt W 8 v n (fun _ cs => ∃ k : SV, cs = k.cells ∧ Z k) → Below W.heap.size W w →
 Calls Tryz.prog 6 #[v] w (PlainQ W Y v n w)
def PlSofar (W : World) (Y : SV → Prop) (a : Option Addr) (w : World) (k : Nat) (wr : World) : Prop := Below w.heap.size w wr ∧ ∀ g off, a = some ⟨g, off, none⟩ → ∀ i, i < k → ∃ cs : Array Value, cs.size = 8 ∧ (∀ j, j < 8 → W.cell? ⟨g, off + i * 8 + j, none⟩ = cs[j]?) ∧ ∃ x : SV, cs = x.cells ∧ Y x
theorem f6_step (W : World) (Z Z' Y' : SV → Prop) (hZ : ∀ s, Z s → SvSh s ∧ (∃ n, SlAt W 8 s.body n fun _ cs => ∃ k : SV, cs = k.cells ∧ Z' k) ∧ ∃ n, SlAt W 8 s.els n fun _ cs => ∃ k : SV, cs = k.cells ∧ Z' k) (hF : (∃ s, Z s) → PlainAt W Z' Y') : PlainAt W Z (fun s => s.kind ≠ 11 ∧ (∃ n, SlAt W 8 s.body n fun _ cs => ∃ k : SV, cs = k.cells ∧ Y' k) ∧ ∃ n, SlAt W 8 s.els n fun _ cs => ∃ k : SV, cs = k.cells ∧ Y' k) := by
 intro v len w hv hW
 obtain ⟨a, c, rfl, hc, hcm, hrow⟩ := hv
 have hlen : len ≤ 9223372036854775807 := by unfold maxLen at hcm; omega
 have HF := Lib.hid hF
 have HW := Lib.hid hW
 have HR := Lib.hid hrow
 have HC := Lib.hid hc
 have HM := Lib.hid hcm
 have HZ := Lib.hid hZ
 clear hF hW hrow hc hcm hZ
 go_enter Tryz.func6, Tryz.ntmps6
 go_wp2
 go_loopw [7] (fun i wr => ∃ k : Nat, k ≤ len ∧ i = .int .i64 k ∧ PlSofar W (fun s => s.kind ≠ 11 ∧ (∃ n, SlAt W 8 s.body n fun _ cs => ∃ k : SV, cs = k.cells ∧ Y' k) ∧ ∃ n, SlAt W 8 s.els n fun _ cs => ∃ k : SV, cs = k.cells ∧ Y' k) a w k wr) (fun i _ => len - (intOf i).toNat)
 case atStart => exact ⟨0, Nat.zero_le _, rfl, Below.refl _ _, fun _ _ _ i hi => absurd hi (Nat.not_lt_zero i)⟩
 case round =>
  obtain ⟨k, hk, rfl, hb, hall⟩ := hrel
  by_cases hlt : k < len
  ·have hk' : k < len := by omega
   obtain ⟨g, off, rfl, hel⟩ := HR.out (Nat.lt_of_le_of_lt (Nat.zero_le k) hk')
   obtain ⟨cs, hsz, hcs, x, rfl, hx⟩ := hel k hk'
   obtain ⟨hsh, hbo, hlo⟩ := HZ.out x hx
   have HG := Lib.hid (HF.out ⟨x, hx⟩)
   have HBW := Lib.hid (HW.out.trans (hb.mono HW.out.size))
   obtain ⟨sk, so, st, xn, xe, xp, xb, xl⟩ := x
   obtain ⟨⟨a1, n1, m1, rfl⟩, ⟨a2, n2, m2, rfl⟩, ⟨a3, n3, m3, rfl⟩, ⟨a4, n4, m4, rfl⟩, ⟨a5, n5, m5, rfl⟩⟩ := hsh
   obtain ⟨c0, c1, c2, c3, c4, c5, c6, c7⟩ := sv_at HBW.out hcs
   dsimp only at c0 c1 c2 c3 c4 c5 c6 c7 hbo hlo
   obtain ⟨nb, hbo⟩ := hbo
   obtain ⟨nl, hlo⟩ := hlo
   have HBO := Lib.hid hbo
   have HLO := Lib.hid hlo
   have HB := Lib.hid hb
   have HA := Lib.hid hall
   have HE : Hid (∀ j, j < 8 → W.cell? ⟨g, off + k * 8 + j, none⟩ = (SV.cells _)[j]?) := Lib.hid hcs
   have HBX : Hid (Below wr.heap.size wr (wr.alloc (.cells #[.int .i64 sk, .int .i64 so, .string st, .slice a1 n1 m1, .slice a2 n2 m2, .slice a3 n3 m3, .slice a4 n4 m4, .slice a5 n5 m5] 43))) := Lib.hid bA
   have HBY := Lib.hid (HBW.out.trans (HBX.out.mono HBW.out.size))
   clear hel hcs hall hx hb hsz hbo hlo
   by_cases h11 : sk = 11
   ·subst h11
    go_wp2
    go_ret
    exact ⟨false, rfl, HB.out.trans (HBX.out.mono HB.out.size), fun h => by cases h⟩
   ·have hk11 : (sk == 11) = false := by simpa using h11
    go_wp2_with fail
    refine (HG.out _ nb _ HBO.out HBY.out).mono ?_
    rintro e w1 ⟨b, rfl, hb1, hq1⟩
    have d7 : w1.cell? ⟨wr.heap.size, 7, none⟩ = some (.slice a5 n5 m5) := (hb1.cell (p := ⟨wr.heap.size, 7, none⟩) (lt1 _ _)).trans (by simp [go_sem])
    have HB1 := Lib.hid (HBX.out.trans (hb1.mono HBX.out.size))
    have HQ1 := Lib.hid hq1
    clear hb1 hq1
    cases b
    ·go_wp2
     go_ret
     exact ⟨false, rfl, HB.out.trans (HB1.out.mono HB.out.size), fun h => by cases h⟩
    ·have HQ1' := Lib.hid (HQ1.out rfl)
     clear HQ1
     go_wp2_with fail
     refine (HG.out _ nl _ HLO.out (HBW.out.trans (HB1.out.mono HBW.out.size))).mono ?_
     rintro e w2 ⟨b, rfl, hb2, hq2⟩
     have HB2 := Lib.hid (HB1.out.trans (hb2.mono HB1.out.size))
     have HQ2 := Lib.hid hq2
     clear hb2 hq2
     cases b
     ·go_wp2
      go_ret
      exact ⟨false, rfl, HB.out.trans (HB2.out.mono HB.out.size), fun h => by cases h⟩
     ·have HQ2' := Lib.hid (HQ2.out rfl)
      clear HQ2
      go_wp2
      go_roundw
      case rel =>
       refine ⟨k + 1, by omega, by go_num, HB.out.trans (HB2.out.mono HB.out.size), fun g' off' ha i hi => ?_⟩
       cases ha
       by_cases hik : i < k
       ·exact HA.out _ _ rfl i hik
       ·obtain rfl : i = k := by omega
        exact ⟨_, rfl, HE.out, _, rfl, h11, ⟨nb, HQ1'.out⟩, ⟨nl, HQ2'.out⟩⟩
      case measure =>
       simp [intOf]
       omega
  ·go_wp2
   go_ret
   obtain rfl : k = len := by omega
   refine ⟨true, rfl, hb, fun _ => ⟨_, _, rfl, HC.out, HM.out, fun h => ?_⟩⟩
   obtain ⟨g, off, ha, _⟩ := HR.out h
   exact ⟨g, off, ha, hall g off ha⟩
theorem f6_any (W : World) : ∀ d, PlainAt W (SS d W) (NoLd W d)
 | 0 => by
  intro v n w hv hW
  exact (f6_step W (SS 0 W) (fun _ => False) (fun _ => False) (fun _ h => h.elim) (fun ⟨_, h⟩ => h.elim) v n w hv hW).mono fun e w' ⟨b, h1, h2, h3⟩ => ⟨b, h1, h2, fun hb => by
   obtain ⟨a, c, rfl, hc, hcm, hrow⟩ := h3 hb
   refine ⟨a, c, rfl, hc, hcm, fun h0 => ?_⟩
   obtain ⟨_, _, hv', _, _, hr'⟩ := hv
   cases hv'
   obtain ⟨_, _, _, hi⟩ := hr' h0
   obtain ⟨_, _, _, _, _, hf⟩ := hi 0 h0
   exact hf.elim⟩
 | d + 1 => f6_step W (SS (d + 1) W) (SS d W) (NoLd W d) (fun s h => ⟨h.sh, h.2.2.2.2.2.2.1, h.2.2.2.2.2.2.2⟩) (fun _ => f6_any W d)
end Go.Proofs.YtabeokminikfdaaGreat
namespace Go.Proofs.YtabeokminikfdaaGreat
open Go.RowKit
theorem sv_inj {k k' : SV} (h : k.cells = k'.cells) : k = k' := by
 obtain ⟨a1, a2, a3, a4, a5, a6, a7, a8⟩ := k
 obtain ⟨b1, b2, b3, b4, b5, b6, b7, b8⟩ := k'
 simp only [SV.cells, Array.mk.injEq, List.cons.injEq, Value.int.injEq, Value.string.injEq, and_true, true_and] at h
 obtain ⟨rfl, rfl, rfl, rfl, rfl, rfl, rfl, rfl⟩ := h
 rfl
theorem cells_eq {W : World} {n g off : Nat} {cs cs' : Array Value} (h : cs.size = n) (h' : cs'.size = n) (hc : ∀ j, j < n → W.cell? ⟨g, off + j, none⟩ = cs[j]?) (hc' : ∀ j, j < n → W.cell? ⟨g, off + j, none⟩ = cs'[j]?) : cs = cs' := by
 refine Array.ext_getElem? fun j => ?_
 by_cases hj : j < n
 ·exact (hc j hj).symm.trans (hc' j hj)
 ·rw [Array.getElem?_eq_none (by omega), Array.getElem?_eq_none (by omega)]
theorem row_plain {W : World} {S S' : SV → Tr → Prop} {Y : SV → Prop} {v : Value} {ts : List Tr} {n : Nat} (h : RowOf W 8 (SQ S) v ts) (h' : SlAt W 8 v n fun _ cs => ∃ k : SV, cs = k.cells ∧ Y k) (hi : ∀ s t, S s t → Y s → S' s t) : RowOf W 8 (SQ S') v ts := by
 obtain ⟨a, c, rfl, h1, h2, h3⟩ := h
 obtain ⟨_, _, hv, _, _, h4⟩ := h'
 cases hv
 refine ⟨a, c, rfl, h1, h2, fun h0 => ?_⟩
 obtain ⟨g, off, rfl, hel⟩ := h3 h0
 obtain ⟨_, _, ha, hel'⟩ := h4 h0
 cases ha
 refine ⟨g, off, rfl, fun i hin => ?_⟩
 obtain ⟨cs, ⟨hs, hc⟩, k, hk, hS⟩ := hel i hin
 obtain ⟨cs', hs', hc', k', hk', hY⟩ := hel' i hin
 have he := cells_eq hs hs' hc hc'
 subst hk hk'
 obtain rfl := sv_inj he
 exact ⟨_, ⟨hs, hc⟩, k, rfl, hi k _ hS hY⟩
theorem gs_plain (W : World) : ∀ (d : Nat) (s : SV) (t : Tr), GS true W d s t → NoLd W d s → GS false W d s t
 | 0, _, _, h, _ => h.elim
 | d + 1, s, t, ⟨h, hsh⟩, ⟨h11, ⟨nb, hb⟩, ⟨nl, hl⟩⟩ => by
  refine ⟨?_, hsh⟩
  have hi := gs_plain W d
  cases h with
  | expr t h1 h2 => exact .expr _ t h1 h2
  | assign a b h1 h2 => exact .assign _ a b h1 h2
  | def_ ps bs h1 h2 h3 h4 h5 => exact .def_ _ ps bs h1 h2 h3 (row_plain h4 hb hi) h5
  | if_ t bs es h1 h2 h3 h4 h5 => exact .if_ _ t bs es h1 h2 (row_plain h3 hb hi) h4 (row_plain h5 hl hi)
  | for_ a b bs h1 h2 h3 h4 => exact .for_ _ a b bs h1 h2 (row_plain h3 hb hi) h4
  | while_ t bs h1 h2 h3 h4 => exact .while_ _ t bs h1 h2 (row_plain h3 hb hi) h4
  | ret0 h1 h2 => exact .ret0 _ h1 h2
  | ret1 t h1 h2 => exact .ret1 _ t h1 h2
  | branch h1 h2 => exact .branch _ h1 h2
  | load h1 h2 => exact absurd h1 h11
end Go.Proofs.YtabeokminikfdaaGreat
