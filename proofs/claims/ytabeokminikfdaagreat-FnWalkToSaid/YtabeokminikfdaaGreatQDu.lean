import Derived.Test.YtabeokminikfdaaGreatQCd
import Derived.Test.YtabeokminikfdaaGreatQCg
import Derived.Test.YtabeokminikfdaaGreatQCi
import Derived.Test.YtabeokminikfdaaGreatQCk
import Derived.Test.YtabeokminikfdaaGreatQDt
import Derived.Test.YtabeokminikfdaaGreatQCq
import Derived.Test.YtabeokminikfdaaGreatQEc
import Derived.Test.YtabeokminikfdaaGreatQCh
import Derived.Test.YtabeokminikfdaaGreatQCm
import Derived.Test.YtabeokminikfdaaGreatQA1
set_option linter.all false
set_option maxRecDepth 100000
set_option maxHeartbeats 64000000
namespace Go.Proofs.YtabeokminikfdaaGreat
open Go.RowKit
theorem list_len1 {α : Type} {l : List α} (h : l.length = 1) : ∃ a, l = [a] := by
 rcases l with _ | ⟨a, _ | ⟨b, r⟩⟩ <;> simp at h ⊢
theorem list_len2 {α : Type} {l : List α} (h : l.length = 2) : ∃ a b, l = [a, b] := by
 rcases l with _ | ⟨a, _ | ⟨b, _ | ⟨c, r⟩⟩⟩ <;> simp at h ⊢
theorem list_len3 {α : Type} {l : List α} (h : l.length = 3) : ∃ a b c, l = [a, b, c] := by
 rcases l with _ | ⟨a, _ | ⟨b, _ | ⟨c, _ | ⟨d, r⟩⟩⟩⟩ <;> simp at h ⊢
theorem RowOf.cap {τ : Type} {W : World} {K : Nat} {Q : Nat → Array Value → τ → Prop} {a : Option Addr} {n c : Nat} {ts : List τ} (h : RowOf W K Q (.slice a n c) ts) : n ≤ 9223372036854775807 := by
 obtain ⟨_, _, hv, h1, h2, _⟩ := h
 cases hv
 unfold maxLen at h2
 omega
def Row50 (xk xo : Int) (xt : ByteArray) (ts : List Tr) (t : Tr) : Prop := (Plain xk xo ts.length ∧ t = .mk none ts) ∨ (xk = 13 ∧ ∃ t0, ts = [t0] ∧ t = .mk none [t0, idt xt])
theorem ShE.cap3 {W : World} {X : EV → Tr → Prop} {xk xo xfk : Int} {xt xft : ByteArray} {xfn : Bool} {xfm xfs xgs : Value} {xfb : Nat} {a : Option Addr} {n c : Nat} {t : Tr} (h : ShE W X ⟨xk, xo, xt, xfk, xfn, xfm, xfb, xft, xfs, .slice a n c, xgs⟩ t) : n ≤ 9223372036854775807 := by
 cases h <;> exact RowOf.cap (by assumption)
theorem f44_row (xk : Int) (xo : Int) (xt : ByteArray) (xfk : Int) (xfn : Bool) (xfb : Nat) (xft : ByteArray) (xa1 xa2 xa3 xa4 : Option Addr) (xn1 xn2 xn3 xn4 xm1 xm2 xm3 xm4 : Nat) (ts : List Tr) (t : Tr) (w : World) (hp : Row50 xk xo xt ts t) (hn : xn3 = ts.length) (hl3 : xn3 ≤ 9223372036854775807) : Calls Tryz.prog 44 #[.agg #[.int .i64 xk, .int .i64 xo, .string xt, .int .i64 xfk, .bool xfn, .slice xa1 xn1 xm1, .int .u64 xfb, .string xft, .slice xa2 xn2 xm2, .slice xa3 xn3 xm3, .slice xa4 xn4 xm4]] w (YesB w) := by
 subst hn
 rcases hp with ⟨hp, -⟩ | ⟨rfl, t0, rfl, -⟩
 ·rcases hp with rfl | rfl | ⟨rfl, _, _, h⟩ | ⟨rfl, _, _, h⟩ | ⟨rfl, h⟩ | ⟨rfl, h⟩ | ⟨rfl, h⟩ | ⟨rfl, h⟩ | ⟨rfl, h⟩
  ·exact f44_3 _ _ _ _ _ _ _ _ _ _ _ _ _ _ _ _ _ _ _  hl3
  ·exact f44_4 _ _ _ _ _ _ _ _ _ _ _ _ _ _ _ _ _ _ _  hl3
  ·rw [h] at hl3 ⊢; exact f44_6 _ _ _ _ _ _ _ _ _ _ _ _ _ _ _ _ _ _ _  hl3
  ·rw [h] at hl3 ⊢; exact f44_7 _ _ _ _ _ _ _ _ _ _ _ _ _ _ _ _ _ _ _  hl3
  ·rw [h] at hl3 ⊢; exact f44_8 _ _ _ _ _ _ _ _ _ _ _ _ _ _ _ _ _ _ _  hl3
  ·rw [h] at hl3 ⊢; exact f44_9 _ _ _ _ _ _ _ _ _ _ _ _ _ _ _ _ _ _ _  hl3
  ·rw [h] at hl3 ⊢; exact f44_10 _ _ _ _ _ _ _ _ _ _ _ _ _ _ _ _ _ _ _  hl3
  ·rw [h] at hl3 ⊢; exact f44_11 _ _ _ _ _ _ _ _ _ _ _ _ _ _ _ _ _ _ _  hl3
  ·rw [h] at hl3 ⊢; exact f44_23 _ _ _ _ _ _ _ _ _ _ _ _ _ _ _ _ _ _ _  hl3
 ·exact f44_13 _ _ _ _ _ _ _ _ _ _ _ _ _ _ _ _ _ _ _  hl3
theorem f44_sh (W : World) (X : EV → Tr → Prop) (xk : Int) (xo : Int) (xt : ByteArray) (xfk : Int) (xfn : Bool) (xfb : Nat) (xft : ByteArray) (xa1 xa2 xa3 xa4 : Option Addr) (xn1 xn2 xn3 xn4 xm1 xm2 xm3 xm4 : Nat) (t : Tr) (w : World) (hb : Below W.heap.size W w) (hs : ShE W X ⟨xk, xo, xt, xfk, xfn, .slice xa1 xn1 xm1, xfb, xft, .slice xa2 xn2 xm2, .slice xa3 xn3 xm3, .slice xa4 xn4 xm4⟩ t) : Calls Tryz.prog 44 #[.agg #[.int .i64 xk, .int .i64 xo, .string xt, .int .i64 xfk, .bool xfn, .slice xa1 xn1 xm1, .int .u64 xfb, .string xft, .slice xa2 xn2 xm2, .slice xa3 xn3 xm3, .slice xa4 xn4 xm4]] w (YesB w) := by
 cases hs with
 | name hk hr =>
  obtain rfl : xk = 1 := hk
  obtain rfl : xn3 = 0 := hr.len
  exact f44_1 _ _ _ _ _ _ _ _ _ _ _ _ _ _ _ _ _ _ _  (Nat.zero_le 9223372036854775807)
 | lit hk hr hl =>
  obtain rfl : xk = 2 := hk
  obtain rfl : xn3 = 0 := hr.len
  exact f44_2 _ _ _ _ _ _ _ _ _ _ _ _ _ _ _ _ _ _ _  (Nat.zero_le 9223372036854775807)
 | plain ts hp hr => exact f44_row xk xo xt xfk xfn xfb xft xa1 xa2 xa3 xa4 xn1 xn2 xn3 xn4 xm1 xm2 xm3 xm4 ts _ w (.inl ⟨hp, rfl⟩) hr.len hr.cap
 | dot t0 hk hr => exact f44_row xk xo xt xfk xfn xfb xft xa1 xa2 xa3 xa4 xn1 xn2 xn3 xn4 xm1 xm2 xm3 xm4 [t0] _ w (.inr ⟨hk, t0, rfl, rfl⟩) hr.len hr.cap
 | dict ts hk hev hr =>
  obtain rfl : xk = 5 := hk
  obtain rfl : xn3 = ts.length := hr.len
  exact f44_5 _ _ _ _ _ _ _ _ _ _ _ _ _ _ _ _ _ _ _  hev hr.cap
 | slice t a b c hk hr =>
  obtain rfl : xk = 12 := hk
  obtain rfl : xn3 = 4 := hr.len
  exact f44_12 _ _ _ _ _ _ _ _ _ _ _ _ _ _ _ _ _ _ _  (Nat.zero_le 9223372036854775807)
 | call t ts hk hr =>
  obtain rfl : xk = 14 := hk
  have hn := hr.len
  exact f44_14 _ _ _ _ _ _ _ _ _ _ _ _ _ _ _ _ _ _ _  (by rw [hn]; simp) hr.cap
 | lambda ps t hk hP hr =>
  obtain rfl : xk = 18 := hk
  obtain rfl : xn3 = 1 := hr.len
  exact f44_18 _ _ _ _ _ _ _ _ _ _ _ _ _ _ _ _ _ _ _  (Nat.zero_le 9223372036854775807)
 | listOf t ts hk h0 hr =>
  obtain rfl : xk = 19 := hk
  have hn := hr.len
  obtain ⟨g3, o3, cs1, hga, ⟨_, he1⟩, z, rfl, _, hz, hz21⟩ := hr.at 1 (by simp only [List.length_cons]; omega)
  obtain rfl : xa3 = some ⟨g3, o3, none⟩ := hga
  exact f44_19 xo xt xfk xfn xfb xft xa1 xa2 none xa4 xn1 xn2 xn3 xn4 xm1 xm2 xm3 xm4 _ _ _ (by rw [hn]; simp only [List.length_cons]; omega) (by rw [(ev_cells1 hb he1).1]; exact congrArg (fun q => some (Value.int .i64 q)) (hz21 rfl)) hr.cap
 | dictOf t t' ts hk h0 hr =>
  obtain rfl : xk = 20 := hk
  have hn := hr.len
  obtain ⟨g3, o3, cs1, hga, ⟨_, he1⟩, z, rfl, _, hz, hz21⟩ := hr.at 2 (by simp only [List.length_cons]; omega)
  obtain rfl : xa3 = some ⟨g3, o3, none⟩ := hga
  exact f44_20 xo xt xfk xfn xfb xft xa1 xa2 none xa4 xn1 xn2 xn3 xn4 xm1 xm2 xm3 xm4 _ _ _ (by rw [hn]; simp only [List.length_cons]; omega) (by rw [(ev_cells2 hb he1).1]; exact congrArg (fun q => some (Value.int .i64 q)) (hz21 rfl)) hr.cap
theorem f50_row (W : World) (gm : Nat) (nm : ByteArray) (vi vf : Value) (N b : Nat) (xk : Int) (xo : Int) (xt : ByteArray) (xfk : Int) (xfn : Bool) (xfb : Nat) (xft : ByteArray) (xa1 xa2 xa3 xa4 : Option Addr) (xn1 xn2 xn3 xn4 xm1 xm2 xm3 xm4 : Nat) (a : Option Addr) (n c : Nat) (ts : List Tr) (t : Tr) (w : World) (hp : Row50 xk xo xt ts t) (h : Mk W gm nm vi vf N w) (hb : b ≤ w.heap.size) (hR : RowQ 0 ts (Sees w (New b gm vi vf w)) (.slice a n c)) :
  Calls Tryz.prog 50 #[.pointer (some ⟨gm, 0, none⟩), .agg #[.int .i64 xk, .int .i64 xo, .string xt, .int .i64 xfk, .bool xfn, .slice xa1 xn1 xm1, .int .u64 xfb, .string xft, .slice xa2 xn2 xm2, .slice xa3 xn3 xm3, .slice xa4 xn4 xm4], .slice a n c] w (MadeB W gm nm N vi vf b w fun R v => Nd R v t) := by
 rcases hp with ⟨hp, rfl⟩ | ⟨rfl, t0, rfl, rfl⟩
 ·rcases hp with rfl | rfl | ⟨rfl, h1, h2, h3⟩ | ⟨rfl, h1, h2, h3⟩ | ⟨rfl, h3⟩ | ⟨rfl, h3⟩ | ⟨rfl, h3⟩ | ⟨rfl, h3⟩ | ⟨rfl, h3⟩
  ·exact f50_3 W gm nm vi vf N b xo xt xfk xfn xfb xft xa1 xa2 xa3 xa4 xn1 xn2 xn3 xn4 xm1 xm2 xm3 xm4 a n c ts w h hb hR
  ·exact f50_4 W gm nm vi vf N b xo xt xfk xfn xfb xft xa1 xa2 xa3 xa4 xn1 xn2 xn3 xn4 xm1 xm2 xm3 xm4 a n c ts w h hb hR
  ·obtain ⟨t0, rfl⟩ := list_len1 h3
   exact f50_6 W gm nm vi vf N b xo xt xfk xfn xfb xft xa1 xa2 xa3 xa4 xn1 xn2 xn3 xn4 xm1 xm2 xm3 xm4 a n c t0 w h1 h2 h hb hR
  ·obtain ⟨t0, t1, rfl⟩ := list_len2 h3
   exact f50_7 W gm nm vi vf N b xo xt xfk xfn xfb xft xa1 xa2 xa3 xa4 xn1 xn2 xn3 xn4 xm1 xm2 xm3 xm4 a n c t0 t1 w h1 h2 h hb hR
  ·obtain ⟨t0, t1, rfl⟩ := list_len2 h3
   exact f50_8 W gm nm vi vf N b xo xt xfk xfn xfb xft xa1 xa2 xa3 xa4 xn1 xn2 xn3 xn4 xm1 xm2 xm3 xm4 a n c t0 t1 w h hb hR
  ·obtain ⟨t0, t1, rfl⟩ := list_len2 h3
   exact f50_9 W gm nm vi vf N b xo xt xfk xfn xfb xft xa1 xa2 xa3 xa4 xn1 xn2 xn3 xn4 xm1 xm2 xm3 xm4 a n c t0 t1 w h hb hR
  ·obtain ⟨t0, t1, t2, rfl⟩ := list_len3 h3
   exact f50_10 W gm nm vi vf N b xo xt xfk xfn xfb xft xa1 xa2 xa3 xa4 xn1 xn2 xn3 xn4 xm1 xm2 xm3 xm4 a n c t0 t1 t2 w h hb hR
  ·obtain ⟨t0, t1, rfl⟩ := list_len2 h3
   exact f50_11 W gm nm vi vf N b xo xt xfk xfn xfb xft xa1 xa2 xa3 xa4 xn1 xn2 xn3 xn4 xm1 xm2 xm3 xm4 a n c t0 t1 w h hb hR
  ·obtain ⟨t0, rfl⟩ := list_len1 h3
   exact f50_23 W gm nm vi vf N b xo xt xfk xfn xfb xft xa1 xa2 xa3 xa4 xn1 xn2 xn3 xn4 xm1 xm2 xm3 xm4 a n c t0 w h hb hR
 ·exact f50_13 W gm nm vi vf N b xo xt xfk xfn xfb xft xa1 xa2 xa3 xa4 xn1 xn2 xn3 xn4 xm1 xm2 xm3 xm4 a n c t0 w h hb hR
theorem f43_pl (W : World) (gm : Nat) (nm : ByteArray) (X : EV → Tr → Prop) (hE : MakeE W gm nm X) (hSh : ∀ e t, X e t → EvSh e) (xk : Int) (xo : Int) (xt : ByteArray) (xfk : Int) (xfn : Bool) (xfb : Nat) (xft : ByteArray) (xa1 xa2 xa3 xa4 : Option Addr) (xn1 xn2 xn3 xn4 xm1 xm2 xm3 xm4 : Nat) (ts : List Tr) (t : Tr) (hp : Row50 xk xo xt ts t) (hK : RowOf W 11 (EQ X) (.slice xa3 xn3 xm3) ts) (N : Nat) (vi vf : Value) (w : World) (hM : Mk W gm nm vi vf N w) (hN : N + t.size ≤ 1000000) :
  Calls Tryz.prog 43 #[.pointer (some ⟨gm, 0, none⟩), .agg #[.int .i64 xk, .int .i64 xo, .string xt, .int .i64 xfk, .bool xfn, .slice xa1 xn1 xm1, .int .u64 xfb, .string xft, .slice xa2 xn2 xm2, .slice xa3 xn3 xm3, .slice xa4 xn4 xm4]] w (Made W gm nm (N + t.size) vi vf w fun R v => Nd R v (t)) := by
 have hl3 := hK.cap
 have hn3 := hK.len
 have hsz : sizes ts ≤ t.size := by rcases hp with ⟨_, rfl⟩ | ⟨_, t0, rfl, rfl⟩ <;> simp only [Tr.size, sizes] <;> omega
 have hne : xk ≠ 1 ∧ xk ≠ 2 ∧ xk ≠ 12 ∧ xk ≠ 14 ∧ xk ≠ 19 ∧ xk ≠ 20 ∧ xk ≠ 18 ∧ xk ≠ 5 := by rcases hp with ⟨hp, _⟩ | ⟨hp, _⟩ <;> (try unfold Plain at hp) <;> omega
 have hb1 := int_ne _ _ hne.1
 have hb2 := int_ne _ _ hne.2.1
 have hb12 := int_ne _ _ hne.2.2.1
 have hb14 := int_ne _ _ hne.2.2.2.1
 have hb19 := int_ne _ _ hne.2.2.2.2.1
 have hb20 := int_ne _ _ hne.2.2.2.2.2.1
 have hb18 := int_ne _ _ hne.2.2.2.2.2.2.1
 have hb5 := int_ne _ _ hne.2.2.2.2.2.2.2
 have HKr := Lib.hid hK
 have HP := Lib.hid hp
 have HL3 := Lib.hid hl3
 have HN3 := Lib.hid hn3
 have HSZ := Lib.hid hsz
 clear hK hp hne hn3 hsz
 have HM := Lib.hid hM
 have HN := Lib.hid hN
 have HE := Lib.hid hE
 have HSh := Lib.hid hSh
 have HB0 : Hid (Below w.heap.size w (w.alloc (.cells #[.int .i64 xk, .int .i64 xo, .string xt, .int .i64 xfk, .bool xfn, .slice xa1 xn1 xm1, .int .u64 xfb, .string xft, .slice xa2 xn2 xm2, .slice xa3 xn3 xm3, .slice xa4 xn4 xm4] 164))) := Lib.hid bA
 clear hM hN hE hSh
 go_enter Tryz.func43, Tryz.ntmps43
 go_wp2_with fail
 refine (f44_row xk xo xt xfk xfn xfb xft xa1 xa2 xa3 xa4 xn1 xn2 xn3 xn4 xm1 xm2 xm3 xm4 ts t _ HP.out HN3.out HL3.out).mono ?_
 rintro e w1 ⟨rfl, hb1⟩
 have HB1 : Hid (Below (w.alloc (.cells #[.int .i64 xk, .int .i64 xo, .string xt, .int .i64 xfk, .bool xfn, .slice xa1 xn1 xm1, .int .u64 xfb, .string xft, .slice xa2 xn2 xm2, .slice xa3 xn3 xm3, .slice xa4 xn4 xm4] 164)).heap.size (w.alloc (.cells #[.int .i64 xk, .int .i64 xo, .string xt, .int .i64 xfk, .bool xfn, .slice xa1 xn1 xm1, .int .u64 xfb, .string xft, .slice xa2 xn2 xm2, .slice xa3 xn3 xm3, .slice xa4 xn4 xm4] 164)) w1) := Lib.hid hb1
 have HM1 := Lib.hid ((HM.out.after HB0.out).after hb1)
 clear hb1
 go_wp2_with fail
 refine (f34_mk W gm nm vi vf N _ HM1.out).mono ?_
 rintro e w2 ⟨rfl, hM2, hS2⟩
 have HM2 := Lib.hid hM2
 have HS2 : Hid (Stp gm vi vf (w.alloc (.cells #[.int .i64 xk, .int .i64 xo, .string xt, .int .i64 xfk, .bool xfn, .slice xa1 xn1 xm1, .int .u64 xfb, .string xft, .slice xa2 xn2 xm2, .slice xa3 xn3 xm3, .slice xa4 xn4 xm4] 164)) vi vf w2) := Lib.hid ((Stp.of_below HB1.out).trans hS2)
 clear hM2 hS2
 have HSb : Hid (Safe gm vi vf w2 w.heap.size) := Lib.hid (HS2.out.keep _ (HM.out.safe_new (Nat.le_refl _) (lt1 _ _))).1
 go_wp2_with fail
 refine (f33_mk W gm nm vi vf N _ HM2.out).mono ?_
 rintro e wp ⟨l0, rfl, hbp⟩
 have HBq : Hid (Below w2.heap.size w2 (wp.alloc (.cells #[.pointer (some ⟨gm, 0, none⟩), .int .i32 l0, .int .i32 1] 60))) := Lib.hid (hbp.alloc hbp.size _)
 have HSq : Hid (Stp gm vi vf w vi vf (wp.alloc (.cells #[.pointer (some ⟨gm, 0, none⟩), .int .i32 l0, .int .i32 1] 60))) := Lib.hid ((Stp.of_below HB0.out).trans (HS2.out.trans (Stp.of_below HBq.out)))
 have HMq := Lib.hid (HM2.out.after HBq.out)
 have HSbq : Hid (Safe gm vi vf (wp.alloc (.cells #[.pointer (some ⟨gm, 0, none⟩), .int .i32 l0, .int .i32 1] 60)) w.heap.size) := Lib.hid ((Stp.of_below HBq.out).keep _ HSb.out).1
 have hbk : ∀ q v, (w.alloc (.cells #[.int .i64 xk, .int .i64 xo, .string xt, .int .i64 xfk, .bool xfn, .slice xa1 xn1 xm1, .int .u64 xfb, .string xft, .slice xa2 xn2 xm2, .slice xa3 xn3 xm3, .slice xa4 xn4 xm4] 164)).cell? ⟨w.heap.size, q, none⟩ = some v → (wp.alloc (.cells #[.pointer (some ⟨gm, 0, none⟩), .int .i32 l0, .int .i32 1] 60)).cell? ⟨w.heap.size, q, none⟩ = some v := fun q v h => ((HS2.out.trans (Stp.of_below HBq.out)).cell (a := ⟨w.heap.size, q, none⟩) (HM.out.safe_new (Nat.le_refl _) (lt1 _ _))).trans h
 have bx0 : (wp.alloc (.cells #[.pointer (some ⟨gm, 0, none⟩), .int .i32 l0, .int .i32 1] 60)).cell? ⟨w.heap.size, 0, none⟩ = some (.int .i64 xk) := hbk _ _ (by simp [go_sem])
 have bx1 : (wp.alloc (.cells #[.pointer (some ⟨gm, 0, none⟩), .int .i32 l0, .int .i32 1] 60)).cell? ⟨w.heap.size, 1, none⟩ = some (.int .i64 xo) := hbk _ _ (by simp [go_sem])
 have bx2 : (wp.alloc (.cells #[.pointer (some ⟨gm, 0, none⟩), .int .i32 l0, .int .i32 1] 60)).cell? ⟨w.heap.size, 2, none⟩ = some (.string xt) := hbk _ _ (by simp [go_sem])
 have bx3 : (wp.alloc (.cells #[.pointer (some ⟨gm, 0, none⟩), .int .i32 l0, .int .i32 1] 60)).cell? ⟨w.heap.size, 3, none⟩ = some (.int .i64 xfk) := hbk _ _ (by simp [go_sem])
 have bx4 : (wp.alloc (.cells #[.pointer (some ⟨gm, 0, none⟩), .int .i32 l0, .int .i32 1] 60)).cell? ⟨w.heap.size, 4, none⟩ = some (.bool xfn) := hbk _ _ (by simp [go_sem])
 have bx5 : (wp.alloc (.cells #[.pointer (some ⟨gm, 0, none⟩), .int .i32 l0, .int .i32 1] 60)).cell? ⟨w.heap.size, 5, none⟩ = some (.slice xa1 xn1 xm1) := hbk _ _ (by simp [go_sem])
 have bx6 : (wp.alloc (.cells #[.pointer (some ⟨gm, 0, none⟩), .int .i32 l0, .int .i32 1] 60)).cell? ⟨w.heap.size, 6, none⟩ = some (.int .u64 xfb) := hbk _ _ (by simp [go_sem])
 have bx7 : (wp.alloc (.cells #[.pointer (some ⟨gm, 0, none⟩), .int .i32 l0, .int .i32 1] 60)).cell? ⟨w.heap.size, 7, none⟩ = some (.string xft) := hbk _ _ (by simp [go_sem])
 have bx8 : (wp.alloc (.cells #[.pointer (some ⟨gm, 0, none⟩), .int .i32 l0, .int .i32 1] 60)).cell? ⟨w.heap.size, 8, none⟩ = some (.slice xa2 xn2 xm2) := hbk _ _ (by simp [go_sem])
 have bx9 : (wp.alloc (.cells #[.pointer (some ⟨gm, 0, none⟩), .int .i32 l0, .int .i32 1] 60)).cell? ⟨w.heap.size, 9, none⟩ = some (.slice xa3 xn3 xm3) := hbk _ _ (by simp [go_sem])
 have bx10 : (wp.alloc (.cells #[.pointer (some ⟨gm, 0, none⟩), .int .i32 l0, .int .i32 1] 60)).cell? ⟨w.heap.size, 10, none⟩ = some (.slice xa4 xn4 xm4) := hbk _ _ (by simp [go_sem])
 have hbpS := hbp.size
 clear hbp hbk
 have HN2 : Hid (N + sizes (ts) ≤ 1000000) := Lib.hid (by have := HN.out; have := HSZ.out; omega)
 go_wp2_with fail
 go_region_held3 (fun w' => w'.cell? ⟨w.heap.size, 0, none⟩ = some (.int .i64 xk) ∧ w'.cell? ⟨w.heap.size, 1, none⟩ = some (.int .i64 xo) ∧ w'.cell? ⟨w.heap.size, 2, none⟩ = some (.string xt) ∧ w'.cell? ⟨w.heap.size, 3, none⟩ = some (.int .i64 xfk) ∧ w'.cell? ⟨w.heap.size, 4, none⟩ = some (.bool xfn) ∧ w'.cell? ⟨w.heap.size, 5, none⟩ = some (.slice xa1 xn1 xm1) ∧ w'.cell? ⟨w.heap.size, 6, none⟩ = some (.int .u64 xfb) ∧ w'.cell? ⟨w.heap.size, 7, none⟩ = some (.string xft) ∧ w'.cell? ⟨w.heap.size, 8, none⟩ = some (.slice xa2 xn2 xm2) ∧ w'.cell? ⟨w.heap.size, 9, none⟩ = some (.slice xa3 xn3 xm3) ∧ w'.cell? ⟨w.heap.size, 10, none⟩ = some (.slice xa4 xn4 xm4)) (first | (refine ⟨?_, ?_, ?_, ?_, ?_, ?_, ?_, ?_, ?_, ?_, ?_⟩ <;> assumption) | go_keep) ((first | (go_at_call 38; refine (f38_any W gm nm X HE.out HSh.out _ (ts) N vi vf _ HKr.out (by first | exact HMq.out | exact HMq.out.after (Below.drewed (Below.refl _ _))) HN2.out).mono ?_; rintro e w6 ⟨v6, vi6, vf6, rfl, hM6, hS6, hR6⟩; obtain ⟨a6, n6, c6, rfl, e1, e2, e3, e4⟩ := hR6; have hS6' : Stp gm vi vf (wp.alloc (.cells #[.pointer (some ⟨gm, 0, none⟩), .int .i32 l0, .int .i32 1] 60)) vi6 vf6 w6 := ⟨fun k hk => hS6.keep k hk, hS6.size⟩; have HR6 : Hid (RowQ 0 (ts) (Sees w6 (New (wp.alloc (.cells #[.pointer (some ⟨gm, 0, none⟩), .int .i32 l0, .int .i32 1] 60)).heap.size gm vi6 vf6 w6)) (.slice a6 n6 c6)) := Lib.hid ⟨a6, n6, c6, rfl, e1, e2, e3, e4⟩; have HM6 := Lib.hid hM6; have HS6 := Lib.hid hS6'; have HSb6 := Lib.hid (hS6'.keep _ HSbq.out).1; have z0 := (hS6'.cell (a := ⟨w.heap.size, 0, none⟩) HSbq.out).trans bx0; have z1 := (hS6'.cell (a := ⟨w.heap.size, 1, none⟩) HSbq.out).trans bx1; have z2 := (hS6'.cell (a := ⟨w.heap.size, 2, none⟩) HSbq.out).trans bx2; have z3 := (hS6'.cell (a := ⟨w.heap.size, 3, none⟩) HSbq.out).trans bx3; have z4 := (hS6'.cell (a := ⟨w.heap.size, 4, none⟩) HSbq.out).trans bx4; have z5 := (hS6'.cell (a := ⟨w.heap.size, 5, none⟩) HSbq.out).trans bx5; have z6 := (hS6'.cell (a := ⟨w.heap.size, 6, none⟩) HSbq.out).trans bx6; have z7 := (hS6'.cell (a := ⟨w.heap.size, 7, none⟩) HSbq.out).trans bx7; have z8 := (hS6'.cell (a := ⟨w.heap.size, 8, none⟩) HSbq.out).trans bx8; have z9 := (hS6'.cell (a := ⟨w.heap.size, 9, none⟩) HSbq.out).trans bx9; have z10 := (hS6'.cell (a := ⟨w.heap.size, 10, none⟩) HSbq.out).trans bx10; clear hM6 hS6 hS6' e1 e2 e3 e4) | (go_at_call 50; refine (f50_row W gm nm vi6 vf6 _ (wp.alloc (.cells #[.pointer (some ⟨gm, 0, none⟩), .int .i32 l0, .int .i32 1] 60)).heap.size xk xo xt xfk xfn xfb xft xa1 xa2 xa3 xa4 xn1 xn2 xn3 xn4 xm1 xm2 xm3 xm4 _ _ _ ts t _ HP.out HM6.out HS6.out.size HR6.out).mono ?_; rintro e w7 ⟨v7, vi7, vf7, rfl, hM7, hS7, hd7⟩; obtain ⟨T7, p7, rfl⟩ := hd7.iface; have HM7 := Lib.hid hM7; have HS7 := Lib.hid hS7; have HD7 : Hid (Nd (Sees w7 (New (wp.alloc (.cells #[.pointer (some ⟨gm, 0, none⟩), .int .i32 l0, .int .i32 1] 60)).heap.size gm vi7 vf7 w7)) (.iface T7 p7) (t)) := Lib.hid hd7; have y0 := (hS7.cell (a := ⟨w.heap.size, 0, none⟩) HSb6.out).trans z0; have y1 := (hS7.cell (a := ⟨w.heap.size, 1, none⟩) HSb6.out).trans z1; have y2 := (hS7.cell (a := ⟨w.heap.size, 2, none⟩) HSb6.out).trans z2; have y3 := (hS7.cell (a := ⟨w.heap.size, 3, none⟩) HSb6.out).trans z3; have y4 := (hS7.cell (a := ⟨w.heap.size, 4, none⟩) HSb6.out).trans z4; have y5 := (hS7.cell (a := ⟨w.heap.size, 5, none⟩) HSb6.out).trans z5; have y6 := (hS7.cell (a := ⟨w.heap.size, 6, none⟩) HSb6.out).trans z6; have y7 := (hS7.cell (a := ⟨w.heap.size, 7, none⟩) HSb6.out).trans z7; have y8 := (hS7.cell (a := ⟨w.heap.size, 8, none⟩) HSb6.out).trans z8; have y9 := (hS7.cell (a := ⟨w.heap.size, 9, none⟩) HSb6.out).trans z9; have y10 := (hS7.cell (a := ⟨w.heap.size, 10, none⟩) HSb6.out).trans z10; clear hM7 hS7 hd7)))
 go_wp2
 go_ret
 exact ⟨_, vi7, vf7, rfl, HM7.out.more (by have := HSZ.out; omega), HSq.out.trans (HS6.out.trans HS7.out), HD7.out.step (Stp.refl ..) HSq.out.size⟩
end Go.Proofs.YtabeokminikfdaaGreat
