import Derived.Test.YtabeokminikfdaaGreatQBk
import Derived.Test.YtabeokminikfdaaGreatQBl
import Derived.Test.YtabeokminikfdaaGreatQBm
import Derived.Test.YtabeokminikfdaaGreatQBn
import Derived.Test.YtabeokminikfdaaGreatQA1
set_option linter.all false
set_option maxRecDepth 100000
set_option maxHeartbeats 4000000
namespace Go.Proofs.YtabeokminikfdaaGreat
open Go.RowKit
theorem fit_up {f : FuncId} {args : Array Value} {gf : Nat} {n : Int} {w : World} {Q Q' : Int → Prop} (h : Calls Tryz.prog f args w (FitPost gf n Q w)) (hQ : ∀ m, Q m → Q' m) : Calls Tryz.prog f args w (FitPost gf n Q' w) :=
 h.mono fun _ _ ⟨b, n', he, hw, h⟩ => ⟨b, n', he, hw, fun hb => ⟨(h hb).1, (h hb).2.1, hQ _ (h hb).2.2⟩⟩
theorem GE.kind {W : World} : ∀ {d : Nat} (k : EV) (t : Tr), GE W d k t → k.kind ≠ 0
 | _ + 1, _, _, h => (ShE.kind h.1).1
theorem fit_expr (W : World) : ∀ d, FitE W (GE W d) (SE d W)
 | 0 => fun _ _ _ _ _ h _ _ _ => h.elim
 | d + 1 => by
  have hF := fit_expr W d
  have hY := ys W d
  intro e gf n deep w he hp h0 h1
  have hsh := he.sh
  obtain ⟨xk, xo, xt, vk, vn, vm, vb, vt, vs, ks, ps⟩ := e
  obtain ⟨⟨a1, n1, m1, rfl⟩, ⟨a2, n2, m2, rfl⟩, ⟨a3, n3, m3, rfl⟩, ⟨a4, n4, m4, rfl⟩⟩ := hsh
  obtain ⟨_, _, ht, _, _, _, ⟨q7, hB⟩, _, ⟨q9, hK⟩, ⟨q10, hP⟩⟩ := he
  dsimp only at ht hB hK hP
  obtain rfl : n1 = q7 := by obtain ⟨_, _, h⟩ := hB.val; cases h; rfl
  obtain rfl : n3 = q9 := by obtain ⟨_, _, h⟩ := hK.val; cases h; rfl
  obtain rfl : n4 = q10 := by obtain ⟨_, _, h⟩ := hP.val; cases h; rfl
  have hP' : SlAt W 3 (.slice a4 n4 m4) n4 fun _ cs => ∃ p : PV, cs = p.cells ∧ p.name.size ≤ maxLen ∧ ∃ m, SlAt W 11 p.dflt m fun _ cs' => ∃ k : EV, cs' = k.cells ∧ SE d W k := hP.mono fun _ _ _ ⟨p, hp, _, g2, m, g3⟩ => ⟨p, hp, g2, m, g3⟩
  refine fit_up (Q := fun m => ∃ t, ShE W (GE W d) (EV.mk xk xo xt vk vn (.slice a1 n1 m1) vb vt (.slice a2 n2 m2) (.slice a3 n3 m3) (.slice a4 n4 m4)) t ∧ (t.size : Int) + 1 ≤ 3 * m) ?_ fun m ⟨t, ht, hs⟩ => ⟨t, ⟨ht, ⟨_, _, _, rfl⟩, ⟨_, _, _, rfl⟩, ⟨_, _, _, rfl⟩, ⟨_, _, _, rfl⟩⟩, hs⟩
  by_cases h_1 : xk = 1
  ·subst h_1
   exact f24_1 W _ _ hF hY xo xt vk vn vb vt a1 a2 a3 a4 n1 n2 n3 n4 m1 m2 m3 m4 gf n deep w hK hP' ht hB hp h0 h1
  by_cases h_2 : xk = 2
  ·subst h_2
   exact f24_2 W _ _ hF hY xo xt vk vn vb vt a1 a2 a3 a4 n1 n2 n3 n4 m1 m2 m3 m4 gf n deep w hK hP' ht hB hp h0 h1
  by_cases h_3 : xk = 3
  ·subst h_3
   exact f24_3 W _ _ hF hY xo xt vk vn vb vt a1 a2 a3 a4 n1 n2 n3 n4 m1 m2 m3 m4 gf n deep w hK hP' ht hB hp h0 h1
  by_cases h_4 : xk = 4
  ·subst h_4
   exact f24_4 W _ _ hF hY xo xt vk vn vb vt a1 a2 a3 a4 n1 n2 n3 n4 m1 m2 m3 m4 gf n deep w hK hP' ht hB hp h0 h1
  by_cases h_5 : xk = 5
  ·subst h_5
   exact f24_5 W _ _ hF hY xo xt vk vn vb vt a1 a2 a3 a4 n1 n2 n3 n4 m1 m2 m3 m4 gf n deep w hK hP' ht hB hp h0 h1
  by_cases h_6 : xk = 6
  ·subst h_6
   exact f24_6 W _ _ hF hY xo xt vk vn vb vt a1 a2 a3 a4 n1 n2 n3 n4 m1 m2 m3 m4 gf n deep w hK hP' ht hB hp h0 h1
  by_cases h_7 : xk = 7
  ·subst h_7
   exact f24_7 W _ _ hF hY xo xt vk vn vb vt a1 a2 a3 a4 n1 n2 n3 n4 m1 m2 m3 m4 gf n deep w hK hP' ht hB hp h0 h1
  by_cases h_8 : xk = 8
  ·subst h_8
   exact f24_8 W _ _ hF hY xo xt vk vn vb vt a1 a2 a3 a4 n1 n2 n3 n4 m1 m2 m3 m4 gf n deep w hK hP' ht hB hp h0 h1
  by_cases h_9 : xk = 9
  ·subst h_9
   exact f24_9 W _ _ hF hY xo xt vk vn vb vt a1 a2 a3 a4 n1 n2 n3 n4 m1 m2 m3 m4 gf n deep w hK hP' ht hB hp h0 h1
  by_cases h_10 : xk = 10
  ·subst h_10
   exact f24_10 W _ _ hF hY xo xt vk vn vb vt a1 a2 a3 a4 n1 n2 n3 n4 m1 m2 m3 m4 gf n deep w hK hP' ht hB hp h0 h1
  by_cases h_11 : xk = 11
  ·subst h_11
   exact f24_11 W _ _ hF hY xo xt vk vn vb vt a1 a2 a3 a4 n1 n2 n3 n4 m1 m2 m3 m4 gf n deep w hK hP' ht hB hp h0 h1
  by_cases h_12 : xk = 12
  ·subst h_12
   exact f24_12 W _ _ hF hY xo xt vk vn vb vt a1 a2 a3 a4 n1 n2 n3 n4 m1 m2 m3 m4 GE.kind gf n deep w hK hP' ht hB hp h0 h1
  by_cases h_13 : xk = 13
  ·subst h_13
   exact f24_13 W _ _ hF hY xo xt vk vn vb vt a1 a2 a3 a4 n1 n2 n3 n4 m1 m2 m3 m4 gf n deep w hK hP' ht hB hp h0 h1
  by_cases h_14 : xk = 14
  ·subst h_14
   exact f24_14 W _ _ hF hY xo xt vk vn vb vt a1 a2 a3 a4 n1 n2 n3 n4 m1 m2 m3 m4 gf n deep w hK hP' ht hB hp h0 h1
  by_cases h_18 : xk = 18
  ·subst h_18
   exact f24_18 W _ _ hF hY xo xt vk vn vb vt a1 a2 a3 a4 n1 n2 n3 n4 m1 m2 m3 m4 gf n deep w hK hP' ht hB hp h0 h1
  by_cases h_19 : xk = 19
  ·subst h_19
   exact f24_19 W _ _ hF hY xo xt vk vn vb vt a1 a2 a3 a4 n1 n2 n3 n4 m1 m2 m3 m4 gf n deep w hK hP' ht hB hp h0 h1
  by_cases h_20 : xk = 20
  ·subst h_20
   exact f24_20 W _ _ hF hY xo xt vk vn vb vt a1 a2 a3 a4 n1 n2 n3 n4 m1 m2 m3 m4 gf n deep w hK hP' ht hB hp h0 h1
  by_cases h_23 : xk = 23
  ·subst h_23
   exact f24_23 W _ _ hF hY xo xt vk vn vb vt a1 a2 a3 a4 n1 n2 n3 n4 m1 m2 m3 m4 gf n deep w hK hP' ht hB hp h0 h1
  exact f24_no W _ _ hF hY xo xt vk vn vb vt a1 a2 a3 a4 n1 n2 n3 n4 m1 m2 m3 m4 xk h_1 h_2 h_3 h_4 h_5 h_6 h_7 h_8 h_9 h_10 h_11 h_12 h_13 h_14 h_18 h_19 h_20 h_23 gf n deep w hK hP' ht hB hp h0 h1
end Go.Proofs.YtabeokminikfdaaGreat
namespace Go.Proofs.YtabeokminikfdaaGreat
open Go.RowKit
def FitL (W : World) (S : SV → Tr → Prop) (Z : SV → Prop) : Prop := ∀ (v : Value) (len gf : Nat) (n deep : Int) (w : World), SlAt W 8 v len (fun _ cs => ∃ k : SV, cs = k.cells ∧ Z k) → FitPre W gf n w → 0 ≤ deep → deep ≤ 1000 →
 Calls Tryz.prog 10 #[.pointer (some ⟨gf, 0, none⟩), v, .int .i64 deep] w (FitPost gf n (fun m => ∃ ts, ts.length = len ∧ RowOf W 8 (SQ S) v ts ∧ (sizes ts : Int) + ts.length ≤ 3 * m) w)
def FitS (W : World) (S : SV → Tr → Prop) (Z : SV → Prop) : Prop := ∀ (s : SV) (gf : Nat) (n deep : Int) (w : World), Z s → FitPre W gf n w → 0 ≤ deep → deep ≤ 24 →
 Calls Tryz.prog 13 #[.pointer (some ⟨gf, 0, none⟩), s.val, .int .i64 deep] w (FitPost gf n (fun m => ∃ t, S s t ∧ (t.size : Int) + 1 ≤ 3 * m + 3) w)
theorem slat_le {W : World} {k n c : Nat} {a : Option Addr} {P : Nat → Array Value → Prop} (h : SlAt W k (.slice a n c) n P) : n ≤ 9223372036854775807 := by
 obtain ⟨_, _, hv, h2, h3, _⟩ := h
 cases hv
 unfold maxLen at h3
 omega
theorem strs_le {W : World} {n c : Nat} {a : Option Addr} {l : List ByteArray} (h : Strs W (.slice a n c) l) (hl : l.length ≤ maxLen) : n ≤ 9223372036854775807 := by
 obtain ⟨_, _, hv⟩ := h.len
 cases hv
 unfold maxLen at hl
 omega
theorem SS.sh : ∀ {d : Nat} {w : World} {s : SV}, SS d w s → SvSh s
 | _ + 1, _, ⟨_, _, _, _, _, _, _, _⟩, ⟨_, _, _, ⟨_, h4, _⟩, ⟨n5, h5⟩, ⟨n6, h6⟩, ⟨n7, h7⟩, ⟨n8, h8⟩⟩ => by
  obtain ⟨a4, c4, h4⟩ := h4.len
  obtain ⟨a5, c5, h5⟩ := SlAt.val h5
  obtain ⟨a6, c6, h6⟩ := SlAt.val h6
  obtain ⟨a7, c7, h7⟩ := SlAt.val h7
  obtain ⟨a8, c8, h8⟩ := SlAt.val h8
  exact ⟨⟨a4, _, c4, h4⟩, ⟨a5, n5, c5, h5⟩, ⟨a6, n6, c6, h6⟩, ⟨a7, n7, c7, h7⟩, ⟨a8, n8, c8, h8⟩⟩
theorem sv_cells {W w : World} {g off i : Nat} {x : SV} (hb : Below W.heap.size W w) (h : ∀ j, j < 8 → W.cell? ⟨g, off + i * 8 + j, none⟩ = x.cells[j]?) :
  w.cell? ⟨g, off + i * 8, none⟩ = some (.int .i64 x.kind) ∧ w.cell? ⟨g, off + i * 8 + 1, none⟩ = some (.int .i64 x.op) ∧ w.cell? ⟨g, off + i * 8 + 2, none⟩ = some (.string x.text) ∧ w.cell? ⟨g, off + i * 8 + 3, none⟩ = some x.names ∧ w.cell? ⟨g, off + i * 8 + 4, none⟩ = some x.exprs ∧ w.cell? ⟨g, off + i * 8 + 5, none⟩ = some x.params ∧ w.cell? ⟨g, off + i * 8 + 6, none⟩ = some x.body ∧ w.cell? ⟨g, off + i * 8 + 7, none⟩ = some x.els := by
 have cell : ∀ j (u : Value), j < 8 → x.cells[j]? = some u → w.cell? ⟨g, off + i * 8 + j, none⟩ = some u := fun j u hj hu => by
  have h1 := (h j hj).trans hu
  exact (hb.cell (p := ⟨g, off + i * 8 + j, none⟩) (World.block_lt_of_cell? W _ h1)).trans h1
 exact ⟨cell 0 _ (by decide) rfl, cell 1 _ (by decide) rfl, cell 2 _ (by decide) rfl, cell 3 _ (by decide) rfl, cell 4 _ (by decide) rfl, cell 5 _ (by decide) rfl, cell 6 _ (by decide) rfl, cell 7 _ (by decide) rfl⟩
theorem f10_any (W : World) (S : SV → Tr → Prop) (Z : SV → Prop) (hF : FitS W S Z) (hZ : ∀ s, Z s → SvSh s) : FitL W S Z := by
 intro v len gf n deep w hv hp h0 h1
 obtain ⟨a, c, rfl, hc, hcm, hrow⟩ := hv
 have hlen : len ≤ 9223372036854775807 := by unfold maxLen at hcm; omega
 have HF := Lib.hid hF
 have HP := Lib.hid hp
 have HR := Lib.hid hrow
 have HC := Lib.hid hc
 have HM := Lib.hid hcm
 have HZ := Lib.hid hZ
 clear hF hp hrow hc hcm hZ
 go_enter Tryz.func10, Tryz.ntmps10
 go_wp2
 go_loopw [11] (fun i wr => ∃ k : Nat, k ≤ len ∧ i = .int .i64 k ∧ Sofar2 W 8 (SQ S) a gf n w k wr) (fun i _ => len - (intOf i).toNat)
 case atStart => exact ⟨0, Nat.zero_le _, rfl, Sofar2.start HP.out⟩
 case round =>
  obtain ⟨k, hk, rfl, hS⟩ := hrel
  have HS := Lib.hid hS
  clear hS
  by_cases hlt : k < len
  ·have hk' : k < len := by omega
   obtain ⟨g, off, rfl, hel⟩ := HR.out (Nat.lt_of_le_of_lt (Nat.zero_le k) hk')
   obtain ⟨cs, hsz, hcs, x, rfl, hx⟩ := hel k hk'
   obtain ⟨n', ts, hl, hw, hn0, hn1, hz, hall⟩ := HS.out
   have hb := hw.below HP.out.bel HP.out.low
   have hsh := HZ.out x hx
   obtain ⟨xk, xo, xt, xn, xe, xp, xb, xl⟩ := x
   obtain ⟨⟨a1, n1, m1, rfl⟩, ⟨a2, n2, m2, rfl⟩, ⟨a3, n3, m3, rfl⟩, ⟨a4, n4, m4, rfl⟩, ⟨a5, n5, m5, rfl⟩⟩ := hsh
   obtain ⟨c0, c1, c2, c3, c4, c5, c6, c7⟩ := sv_cells hb hcs
   dsimp only at c0 c1 c2 c3 c4 c5 c6 c7
   have hPk := HP.out.next hw hn0 hn1
   have hne : ¬ wr.heap.size = gf := by have := hPk.left.lt; omega
   have HPk := Lib.hid hPk
   have HW := Lib.hid hw
   have HX := Lib.hid hx
   have HE : Hid (El W 8 g off k _) := Lib.hid ⟨rfl, hcs⟩
   have HA := Lib.hid hall
   have HL := Lib.hid hl
   clear hel hcs hall hx hl hw hb hsz HR HS hPk
   go_wp2_with fail
   refine (f12_fw W gf n' deep _ (HPk.out.after bA)).mono ?_
   rintro e w1 ⟨b, rfl, F1, hq⟩
   have b0 : w1.cell? ⟨wr.heap.size, 0, none⟩ = some (.int .i64 xk) := F1.box hne 0 _ rfl
   have b1 : w1.cell? ⟨wr.heap.size, 1, none⟩ = some (.int .i64 xo) := F1.box hne 1 _ rfl
   have b2 : w1.cell? ⟨wr.heap.size, 2, none⟩ = some (.string xt) := F1.box hne 2 _ rfl
   have b3 : w1.cell? ⟨wr.heap.size, 3, none⟩ = some (.slice a1 n1 m1) := F1.box hne 3 _ rfl
   have b4 : w1.cell? ⟨wr.heap.size, 4, none⟩ = some (.slice a2 n2 m2) := F1.box hne 4 _ rfl
   have b5 : w1.cell? ⟨wr.heap.size, 5, none⟩ = some (.slice a3 n3 m3) := F1.box hne 5 _ rfl
   have b6 : w1.cell? ⟨wr.heap.size, 6, none⟩ = some (.slice a4 n4 m4) := F1.box hne 6 _ rfl
   have b7 : w1.cell? ⟨wr.heap.size, 7, none⟩ = some (.slice a5 n5 m5) := F1.box hne 7 _ rfl
   have HF1 := Lib.hid F1
   have HQ := Lib.hid hq
   have HB1 := Lib.hid (F1.below (HPk.out.after bA).bel HPk.out.low)
   clear F1 hq
   cases b
   ·go_wp2
    go_ret
    exact fit_no rfl (HW.out.trans (FW.after bA HF1.out))
   ·obtain ⟨hn', hdeep⟩ := HQ.out rfl
    clear HQ
    have HP1 := Lib.hid (HPk.out.next' HF1.out HB1.out (by omega) (by omega))
    go_wp2_with fail
    refine (HF.out _ gf (n' - 1) deep w1 HX.out HP1.out h0 hdeep).mono ?_
    rintro e w2 ⟨b, n2', rfl, F2, hq⟩
    have HF2 := Lib.hid (HF1.out.trans F2)
    have HQ2 := Lib.hid hq
    clear F2 hq
    cases b
    ·go_wp2
     go_ret
     exact fit_no rfl (HW.out.trans (FW.after bA HF2.out))
    ·have HQ3 := Lib.hid (HQ2.out rfl)
     clear HQ2
     go_wp2
     go_roundw
     case rel =>
      obtain ⟨q0, q1, t, ht, hts⟩ := HQ3.out
      exact ⟨k + 1, by omega, by go_num, Sofar2.snoc HL.out hz hn1 HA.out HE.out (t := t) ⟨_, rfl, ht⟩ (HW.out.trans (FW.after bA HF2.out)) q0 (by omega) (by omega)⟩
     case measure =>
      simp [intOf]
      omega
  ·go_wp2
   go_ret
   obtain rfl : k = len := by omega
   exact HS.out.done HC.out HM.out fun h => by
    obtain ⟨g, off, ha, _⟩ := HR.out h
    exact ⟨g, off, ha⟩
end Go.Proofs.YtabeokminikfdaaGreat
