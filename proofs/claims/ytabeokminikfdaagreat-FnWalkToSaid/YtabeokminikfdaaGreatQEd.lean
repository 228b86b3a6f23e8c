import Derived.Test.YtabeokminikfdaaGreatQEa
import Derived.Defers
import Derived.Test.YtabeokminikfdaaGreatQEb
import Derived.Test.YtabeokminikfdaaGreatQEc
import Derived.Test.YtabeokminikfdaaGreatQA1
set_option linter.all false
set_option maxRecDepth 100000
set_option maxHeartbeats 64000000
namespace Go.Proofs.YtabeokminikfdaaGreat
open Go.RowKit
def OnlyN (Q : Exit → Act → World → Prop) : Exit → Act → World → Prop
 | .normal, a, w => Q .normal a w
 | _, _, _ => False
theorem only_normal {P : Program} {c : Code} {Q : Exit → Act → World → Prop} {a : Act} {w : World} (h : c.wp P (OnlyN Q) a w) : c.wp P Q a w :=
 Code.wp_mono (fun e a w h => by cases e <;> first | exact h | exact h.elim) h
theorem f32_ret (W : World) (gm b2 b5 : Nat) (nm : ByteArray) (x : Int) (vi vf : Value) (N : Nat) (u : FrameMode) (w : World) (hM : Mk W gm nm vi vf N w) (h2 : w.cell? ⟨b2, 0, none⟩ = some (.pointer (some ⟨gm, 0, none⟩))) (h5 : w.cell? ⟨b5, 0, none⟩ = some (.int .i32 x)) : CallsD Tryz.prog 32 #[.pointer (some ⟨b5, 0, none⟩), .pointer (some ⟨b2, 0, none⟩)] u w fun e u' w' => u' = u ∧ e = .returned (.tuple #[]) ∧ w' = w.setCell ⟨gm, 2, none⟩ (.int .i32 x) := by
 obtain ⟨c, l, ho⟩ := hM.obj
 obtain ⟨c0, c1, c2, c3, c4, c5, c6⟩ := ho.cells
 clear hM ho
 go_enter_d Tryz.func32, Tryz.ntmps32
 go_wp2
 go_end0
 exact ⟨rfl, rfl⟩
theorem made_line {W : World} {gm : Nat} {nm : ByteArray} {N : Nat} {vi vf : Value} {w w' : World} {v : Value} {t : Tr} (h : Made W gm nm N vi vf w (fun R v => Nd R v t) (.returned v) w') (x : Int) : Made W gm nm N vi vf w (fun R v => Nd R v t) (.returned v) (w'.setCell ⟨gm, 2, none⟩ (.int .i32 x)) := by
 obtain ⟨v', vi', vf', e, hM, hS, hd⟩ := h
 obtain ⟨c, l, ho⟩ := hM.obj
 exact ⟨v', vi', vf', e, hM.set 2 _ ⟨c, x, ho.set2 x⟩, hS.trans (Stp.set 2 _), hd.step (Stp.set 2 _) (Nat.le_refl _)⟩
theorem ShS.few {W : World} {X : EV → Tr → Prop} {S : SV → Tr → Prop} {sk so : Int} {st : ByteArray} {w1 w3 w4 w5 : Value} {a : Option Addr} {n c : Nat} {t : Tr} (h : ShS false W X S ⟨sk, so, st, w1, .slice a n c, w3, w4, w5⟩ t) : (sk = 0 ∧ n = 1) ∨ (sk = 1 ∧ n = 2) ∨ (sk = 2 ∧ n = 2) ∨ (sk = 3 ∧ n = 0) ∨ (sk = 4 ∧ n = 1) ∨ (sk = 5 ∧ n = 2) ∨ (sk = 6 ∧ n = 1) ∨ (sk = 7 ∧ n = 0) ∨ (sk = 8 ∧ n = 0) ∨ (sk = 9 ∧ n = 0) ∨ (sk = 10 ∧ n = 0) ∨ (sk = 7 ∧ n = 1) := by
 cases h with
 | assign a b h1 h2 =>
  have := h2.len
  dsimp only [List.length] at *
  omega
 | branch h1 h2 =>
  have := h2.len
  dsimp only [List.length] at *
  omega
 | load h1 h2 => cases h2
 | expr t h1 h2 =>
  have := h2.len
  dsimp only [List.length] at *
  omega
 | def_ ps bs h1 h2 =>
  have := h2.len
  dsimp only [List.length] at *
  omega
 | if_ t bs es h1 h2 =>
  have := h2.len
  dsimp only [List.length] at *
  omega
 | for_ a b bs h1 h2 =>
  have := h2.len
  dsimp only [List.length] at *
  omega
 | while_ t bs h1 h2 =>
  have := h2.len
  dsimp only [List.length] at *
  omega
 | ret0 h1 h2 =>
  have := h2.len
  dsimp only [List.length] at *
  omega
 | ret1 t h1 h2 =>
  have := h2.len
  dsimp only [List.length] at *
  omega
theorem ShS.ret {W : World} {X : EV → Tr → Prop} {S : SV → Tr → Prop} {so : Int} {st : ByteArray} {w1 w3 w4 w5 : Value} {a : Option Addr} {c : Nat} {t : Tr} (h : ShS false W X S ⟨7, so, st, w1, .slice a 1 c, w3, w4, w5⟩ t) : ∃ t0, RowOf W 11 (EQ X) (.slice a 1 c) [t0] ∧ t = .mk none [t0] := by
 cases h with
 | ret1 t h1 h2 => exact ⟨t, h2, rfl⟩
 | ret0 h1 h2 => have := h2.len; simp at this
 | assign a b h1 h2 => have := h2.len; simp at this
 | branch h1 h2 => have := h2.len; simp at this
 | load h1 h2 => cases h2
 | expr t h1 h2 => simp at h1
 | def_ ps bs h1 h2 => have := h2.len; simp at this
 | if_ t bs es h1 h2 => simp at h1
 | for_ a b bs h1 h2 => have := h2.len; simp at this
 | while_ t bs h1 h2 => simp at h1
theorem f26_go (W : World) (gm : Nat) (nm : ByteArray) (X : EV → Tr → Prop) (hE : MakeE W gm nm X) (hSh : ∀ e t, X e t → EvSh e) (S : SV → Tr → Prop) (hS : MakeS W gm nm S) (hSS : ∀ s t, S s t → SvSh s) (sk : Int) (so : Int) (st : ByteArray) (a1 a2 a3 a4 a5 : Option Addr) (n1 n3 n4 n5 m1 m2 m3 m4 m5 : Nat) (n2 : Nat) (t : Tr) (hs : ShS false W X S ⟨sk, so, st, .slice a1 n1 m1, .slice a2 n2 m2, .slice a3 n3 m3, .slice a4 n4 m4, .slice a5 n5 m5⟩ t) (N : Nat) (vi vf : Value) (w : World) (hM : Mk W gm nm vi vf N w) (hN : N + t.size ≤ 1000000) :
  Calls Tryz.prog 26 #[.pointer (some ⟨gm, 0, none⟩), .agg #[.int .i64 sk, .int .i64 so, .string st, .slice a1 n1 m1, .slice a2 n2 m2, .slice a3 n3 m3, .slice a4 n4 m4, .slice a5 n5 m5]] w (Made W gm nm (N + t.size) vi vf w fun R v => Nd R v t) := by
 have hs0 : (0 : Int) ≤ sk := by have := hs.few; omega
 have hs1 : sk < 12 := by have := hs.few; omega
 have hs01 := And.intro hs0 hs1
 obtain ⟨fw, hfw, hq⟩ : ∃ fw : Int, (#[.int .i64 1, .int .i64 2, .int .i64 2, .int .i64 0, .int .i64 1, .int .i64 2, .int .i64 1, .int .i64 0, .int .i64 0, .int .i64 0, .int .i64 0, .int .i64 0] : Array Value)[sk.toNat]? = some (.int .i64 fw) ∧ (fw = (n2 : Int) ∨ (sk = 7 ∧ n2 = 1 ∧ fw = 0)) := by
  rcases hs.few with h | h | h | h | h | h | h | h | h | h | h | h <;> (obtain ⟨rfl, rfl⟩ := h; exact ⟨_, rfl, by decide⟩)
 obtain ⟨c, l, ho⟩ := hM.obj
 obtain ⟨c0, c1, c2, c3, c4, c5, c6⟩ := ho.cells
 have hlt := hM.lt
 obtain ⟨-, -, d2, -, -, -, d6⟩ := (ho.set1 (wrap32 (c + 1))).cells
 have g2 : ((((w.setCell ⟨gm, 1, none⟩ (.int .i32 (wrap32 (c + 1)))).alloc (.cells #[.pointer (some ⟨gm, 0, none⟩)] 47)).alloc (.cells #[.int .i64 sk, .int .i64 so, .string st, .slice a1 n1 m1, .slice a2 n2 m2, .slice a3 n3 m3, .slice a4 n4 m4, .slice a5 n5 m5] 43)).alloc (.cells #[(.int .i32 (wrap32 (c + 1)))] 21)).cell? ⟨gm, 2, none⟩ = some (.int .i32 l) := cell_al _ (cell_al _ (cell_al _ d2))
 have g6 : ((((w.setCell ⟨gm, 1, none⟩ (.int .i32 (wrap32 (c + 1)))).alloc (.cells #[.pointer (some ⟨gm, 0, none⟩)] 47)).alloc (.cells #[.int .i64 sk, .int .i64 so, .string st, .slice a1 n1 m1, .slice a2 n2 m2, .slice a3 n3 m3, .slice a4 n4 m4, .slice a5 n5 m5] 43)).alloc (.cells #[(.int .i32 (wrap32 (c + 1)))] 21)).frozen? ⟨gm, 2, none⟩ = false := by have := d6 2; simp only [World.frozen?] at this ⊢; rwa [Below.heap_alloc _ _ gm (by simp; omega), Below.heap_alloc _ _ gm (by simp; omega), Below.heap_alloc _ _ gm (by simp; omega)]
 have hB13 : Below (w.setCell ⟨gm, 1, none⟩ (.int .i32 (wrap32 (c + 1)))).heap.size (w.setCell ⟨gm, 1, none⟩ (.int .i32 (wrap32 (c + 1)))) ((((w.setCell ⟨gm, 1, none⟩ (.int .i32 (wrap32 (c + 1)))).alloc (.cells #[.pointer (some ⟨gm, 0, none⟩)] 47)).alloc (.cells #[.int .i64 sk, .int .i64 so, .string st, .slice a1 n1 m1, .slice a2 n2 m2, .slice a3 n3 m3, .slice a4 n4 m4, .slice a5 n5 m5] 43)).alloc (.cells #[(.int .i32 (wrap32 (c + 1)))] 21)) := (bA.alloc (by simp) _).alloc (by simp; omega) _
 have HMA : Hid (Mk W gm nm vi vf N ((((((w.setCell ⟨gm, 1, none⟩ (.int .i32 (wrap32 (c + 1)))).alloc (.cells #[.pointer (some ⟨gm, 0, none⟩)] 47)).alloc (.cells #[.int .i64 sk, .int .i64 so, .string st, .slice a1 n1 m1, .slice a2 n2 m2, .slice a3 n3 m3, .slice a4 n4 m4, .slice a5 n5 m5] 43)).alloc (.cells #[(.int .i32 (wrap32 (c + 1)))] 21)).setCell ⟨gm, 2, none⟩ (.int .i32 (wrap32 (c + 1)))).alloc (.cells #[.int .i64 1, .int .i64 2, .int .i64 2, .int .i64 0, .int .i64 1, .int .i64 2, .int .i64 1, .int .i64 0, .int .i64 0, .int .i64 0, .int .i64 0, .int .i64 0] 175))) := Lib.hid (((((hM.set 1 _ ⟨_, _, ho.set1 (wrap32 (c + 1))⟩).after hB13).set 2 _ ⟨_, _, MkAt.set2 (w := ((((w.setCell ⟨gm, 1, none⟩ (.int .i32 (wrap32 (c + 1)))).alloc (.cells #[.pointer (some ⟨gm, 0, none⟩)] 47)).alloc (.cells #[.int .i64 sk, .int .i64 so, .string st, .slice a1 n1 m1, .slice a2 n2 m2, .slice a3 n3 m3, .slice a4 n4 m4, .slice a5 n5 m5] 43)).alloc (.cells #[(.int .i32 (wrap32 (c + 1)))] 21))) ((hB13.block gm (by simpa using hlt)).trans (ho.set1 (wrap32 (c + 1)))) (wrap32 (c + 1))⟩)).after bA)
 have HSA : Hid (Stp gm vi vf w vi vf ((((((w.setCell ⟨gm, 1, none⟩ (.int .i32 (wrap32 (c + 1)))).alloc (.cells #[.pointer (some ⟨gm, 0, none⟩)] 47)).alloc (.cells #[.int .i64 sk, .int .i64 so, .string st, .slice a1 n1 m1, .slice a2 n2 m2, .slice a3 n3 m3, .slice a4 n4 m4, .slice a5 n5 m5] 43)).alloc (.cells #[(.int .i32 (wrap32 (c + 1)))] 21)).setCell ⟨gm, 2, none⟩ (.int .i32 (wrap32 (c + 1)))).alloc (.cells #[.int .i64 1, .int .i64 2, .int .i64 2, .int .i64 0, .int .i64 1, .int .i64 2, .int .i64 1, .int .i64 0, .int .i64 0, .int .i64 0, .int .i64 0, .int .i64 0] 175))) := Lib.hid ((Stp.set 1 _).trans ((Stp.of_below hB13).trans ((Stp.set 2 _).trans (Stp.of_below bA))))
 have HSf : Hid (∀ k, w.heap.size ≤ k → k < w.heap.size + 4 → Safe gm vi vf ((((((w.setCell ⟨gm, 1, none⟩ (.int .i32 (wrap32 (c + 1)))).alloc (.cells #[.pointer (some ⟨gm, 0, none⟩)] 47)).alloc (.cells #[.int .i64 sk, .int .i64 so, .string st, .slice a1 n1 m1, .slice a2 n2 m2, .slice a3 n3 m3, .slice a4 n4 m4, .slice a5 n5 m5] 43)).alloc (.cells #[(.int .i32 (wrap32 (c + 1)))] 21)).setCell ⟨gm, 2, none⟩ (.int .i32 (wrap32 (c + 1)))).alloc (.cells #[.int .i64 1, .int .i64 2, .int .i64 2, .int .i64 0, .int .i64 1, .int .i64 2, .int .i64 1, .int .i64 0, .int .i64 0, .int .i64 0, .int .i64 0, .int .i64 0] 175)) k) := Lib.hid (fun k h1 h2 => hM.safe_new h1 (by simp; omega))
 have HQ : Hid ((((n2 : Int) == fw) = true) ∨ (sk = 7 ∧ n2 = 1 ∧ fw = 0)) := Lib.hid (by rcases hq with h | h; exact .inl (by simp [h]); exact .inr h)
 have hbf : ∀ b : Bool, b = ((n2 : Int) == fw) → b = ((n2 : Int) == fw) := fun _ h => h
 clear hq hbf
 have HN := Lib.hid hN
 have HE := Lib.hid hE
 have HSh := Lib.hid hSh
 have HS := Lib.hid hS
 have HSS := Lib.hid hSS
 have hmf : ∀ (fn : Fn) (first cap : Array Value) (w : World), (Instr.makeFunc fn first cap).run Tryz.prog w = .ok (.func fn first cap) w := fun _ _ _ _ => rfl
 have HSt := Lib.hid hs
 clear ho hM hN hE hSh hS hSS hB13 hs
 go_enter_defers Tryz.func26, Tryz.ntmps26
 go_wp2_with fail
 have ra : ((((((w.setCell ⟨gm, 1, none⟩ (.int .i32 (wrap32 (c + 1)))).alloc (.cells #[.pointer (some ⟨gm, 0, none⟩)] 47)).alloc (.cells #[.int .i64 sk, .int .i64 so, .string st, .slice a1 n1 m1, .slice a2 n2 m2, .slice a3 n3 m3, .slice a4 n4 m4, .slice a5 n5 m5] 43)).alloc (.cells #[(.int .i32 (wrap32 (c + 1)))] 21)).setCell ⟨gm, 2, none⟩ (.int .i32 (wrap32 (c + 1)))).alloc (.cells #[.int .i64 1, .int .i64 2, .int .i64 2, .int .i64 0, .int .i64 1, .int .i64 2, .int .i64 1, .int .i64 0, .int .i64 0, .int .i64 0, .int .i64 0, .int .i64 0] 175)).cell? ⟨w.heap.size, 0, none⟩ = some (.pointer (some ⟨gm, 0, none⟩)) := by simp [go_sem]
 have rc : ((((((w.setCell ⟨gm, 1, none⟩ (.int .i32 (wrap32 (c + 1)))).alloc (.cells #[.pointer (some ⟨gm, 0, none⟩)] 47)).alloc (.cells #[.int .i64 sk, .int .i64 so, .string st, .slice a1 n1 m1, .slice a2 n2 m2, .slice a3 n3 m3, .slice a4 n4 m4, .slice a5 n5 m5] 43)).alloc (.cells #[(.int .i32 (wrap32 (c + 1)))] 21)).setCell ⟨gm, 2, none⟩ (.int .i32 (wrap32 (c + 1)))).alloc (.cells #[.int .i64 1, .int .i64 2, .int .i64 2, .int .i64 0, .int .i64 1, .int .i64 2, .int .i64 1, .int .i64 0, .int .i64 0, .int .i64 0, .int .i64 0, .int .i64 0] 175)).cell? ⟨w.heap.size + 1 + 1, 0, none⟩ = some (.int .i32 (wrap32 (c + 1))) := by simp [go_sem]
 have hgA : ((((((w.setCell ⟨gm, 1, none⟩ (.int .i32 (wrap32 (c + 1)))).alloc (.cells #[.pointer (some ⟨gm, 0, none⟩)] 47)).alloc (.cells #[.int .i64 sk, .int .i64 so, .string st, .slice a1 n1 m1, .slice a2 n2 m2, .slice a3 n3 m3, .slice a4 n4 m4, .slice a5 n5 m5] 43)).alloc (.cells #[(.int .i32 (wrap32 (c + 1)))] 21)).setCell ⟨gm, 2, none⟩ (.int .i32 (wrap32 (c + 1)))).alloc (.cells #[.int .i64 1, .int .i64 2, .int .i64 2, .int .i64 0, .int .i64 1, .int .i64 2, .int .i64 1, .int .i64 0, .int .i64 0, .int .i64 0, .int .i64 0, .int .i64 0] 175)).heap[w.heap.size + 1 + 1 + 1]? = some (.cells #[.int .i64 1, .int .i64 2, .int .i64 2, .int .i64 0, .int .i64 1, .int .i64 2, .int .i64 1, .int .i64 0, .int .i64 0, .int .i64 0, .int .i64 0, .int .i64 0] 175) := by
  have := heap_alloc_new (((((w.setCell ⟨gm, 1, none⟩ (.int .i32 (wrap32 (c + 1)))).alloc (.cells #[.pointer (some ⟨gm, 0, none⟩)] 47)).alloc (.cells #[.int .i64 sk, .int .i64 so, .string st, .slice a1 n1 m1, .slice a2 n2 m2, .slice a3 n3 m3, .slice a4 n4 m4, .slice a5 n5 m5] 43)).alloc (.cells #[(.int .i32 (wrap32 (c + 1)))] 21)).setCell ⟨gm, 2, none⟩ (.int .i32 (wrap32 (c + 1)))) (.cells #[.int .i64 1, .int .i64 2, .int .i64 2, .int .i64 0, .int .i64 1, .int .i64 2, .int .i64 1, .int .i64 0, .int .i64 0, .int .i64 0, .int .i64 0, .int .i64 0] 175)
  rwa [show (((((w.setCell ⟨gm, 1, none⟩ (.int .i32 (wrap32 (c + 1)))).alloc (.cells #[.pointer (some ⟨gm, 0, none⟩)] 47)).alloc (.cells #[.int .i64 sk, .int .i64 so, .string st, .slice a1 n1 m1, .slice a2 n2 m2, .slice a3 n3 m3, .slice a4 n4 m4, .slice a5 n5 m5] 43)).alloc (.cells #[(.int .i32 (wrap32 (c + 1)))] 21)).setCell ⟨gm, 2, none⟩ (.int .i32 (wrap32 (c + 1)))).heap.size = w.heap.size + 1 + 1 + 1 by simp] at this
 have rk : ((((((w.setCell ⟨gm, 1, none⟩ (.int .i32 (wrap32 (c + 1)))).alloc (.cells #[.pointer (some ⟨gm, 0, none⟩)] 47)).alloc (.cells #[.int .i64 sk, .int .i64 so, .string st, .slice a1 n1 m1, .slice a2 n2 m2, .slice a3 n3 m3, .slice a4 n4 m4, .slice a5 n5 m5] 43)).alloc (.cells #[(.int .i32 (wrap32 (c + 1)))] 21)).setCell ⟨gm, 2, none⟩ (.int .i32 (wrap32 (c + 1)))).alloc (.cells #[.int .i64 1, .int .i64 2, .int .i64 2, .int .i64 0, .int .i64 1, .int .i64 2, .int .i64 1, .int .i64 0, .int .i64 0, .int .i64 0, .int .i64 0, .int .i64 0] 175)).cell? ⟨w.heap.size + 1 + 1 + 1, sk.toNat, none⟩ = some (.int .i64 fw) := obj_cell hgA sk.toNat _ hfw
 have rb0 : ((((((w.setCell ⟨gm, 1, none⟩ (.int .i32 (wrap32 (c + 1)))).alloc (.cells #[.pointer (some ⟨gm, 0, none⟩)] 47)).alloc (.cells #[.int .i64 sk, .int .i64 so, .string st, .slice a1 n1 m1, .slice a2 n2 m2, .slice a3 n3 m3, .slice a4 n4 m4, .slice a5 n5 m5] 43)).alloc (.cells #[(.int .i32 (wrap32 (c + 1)))] 21)).setCell ⟨gm, 2, none⟩ (.int .i32 (wrap32 (c + 1)))).alloc (.cells #[.int .i64 1, .int .i64 2, .int .i64 2, .int .i64 0, .int .i64 1, .int .i64 2, .int .i64 1, .int .i64 0, .int .i64 0, .int .i64 0, .int .i64 0, .int .i64 0] 175)).cell? ⟨w.heap.size + 1, 0, none⟩ = some (.int .i64 sk) := by simp [go_sem]
 have rb1 : ((((((w.setCell ⟨gm, 1, none⟩ (.int .i32 (wrap32 (c + 1)))).alloc (.cells #[.pointer (some ⟨gm, 0, none⟩)] 47)).alloc (.cells #[.int .i64 sk, .int .i64 so, .string st, .slice a1 n1 m1, .slice a2 n2 m2, .slice a3 n3 m3, .slice a4 n4 m4, .slice a5 n5 m5] 43)).alloc (.cells #[(.int .i32 (wrap32 (c + 1)))] 21)).setCell ⟨gm, 2, none⟩ (.int .i32 (wrap32 (c + 1)))).alloc (.cells #[.int .i64 1, .int .i64 2, .int .i64 2, .int .i64 0, .int .i64 1, .int .i64 2, .int .i64 1, .int .i64 0, .int .i64 0, .int .i64 0, .int .i64 0, .int .i64 0] 175)).cell? ⟨w.heap.size + 1, 1, none⟩ = some (.int .i64 so) := by simp [go_sem]
 have rb2 : ((((((w.setCell ⟨gm, 1, none⟩ (.int .i32 (wrap32 (c + 1)))).alloc (.cells #[.pointer (some ⟨gm, 0, none⟩)] 47)).alloc (.cells #[.int .i64 sk, .int .i64 so, .string st, .slice a1 n1 m1, .slice a2 n2 m2, .slice a3 n3 m3, .slice a4 n4 m4, .slice a5 n5 m5] 43)).alloc (.cells #[(.int .i32 (wrap32 (c + 1)))] 21)).setCell ⟨gm, 2, none⟩ (.int .i32 (wrap32 (c + 1)))).alloc (.cells #[.int .i64 1, .int .i64 2, .int .i64 2, .int .i64 0, .int .i64 1, .int .i64 2, .int .i64 1, .int .i64 0, .int .i64 0, .int .i64 0, .int .i64 0, .int .i64 0] 175)).cell? ⟨w.heap.size + 1, 2, none⟩ = some (.string st) := by simp [go_sem]
 have rb3 : ((((((w.setCell ⟨gm, 1, none⟩ (.int .i32 (wrap32 (c + 1)))).alloc (.cells #[.pointer (some ⟨gm, 0, none⟩)] 47)).alloc (.cells #[.int .i64 sk, .int .i64 so, .string st, .slice a1 n1 m1, .slice a2 n2 m2, .slice a3 n3 m3, .slice a4 n4 m4, .slice a5 n5 m5] 43)).alloc (.cells #[(.int .i32 (wrap32 (c + 1)))] 21)).setCell ⟨gm, 2, none⟩ (.int .i32 (wrap32 (c + 1)))).alloc (.cells #[.int .i64 1, .int .i64 2, .int .i64 2, .int .i64 0, .int .i64 1, .int .i64 2, .int .i64 1, .int .i64 0, .int .i64 0, .int .i64 0, .int .i64 0, .int .i64 0] 175)).cell? ⟨w.heap.size + 1, 3, none⟩ = some (.slice a1 n1 m1) := by simp [go_sem]
 have rb4 : ((((((w.setCell ⟨gm, 1, none⟩ (.int .i32 (wrap32 (c + 1)))).alloc (.cells #[.pointer (some ⟨gm, 0, none⟩)] 47)).alloc (.cells #[.int .i64 sk, .int .i64 so, .string st, .slice a1 n1 m1, .slice a2 n2 m2, .slice a3 n3 m3, .slice a4 n4 m4, .slice a5 n5 m5] 43)).alloc (.cells #[(.int .i32 (wrap32 (c + 1)))] 21)).setCell ⟨gm, 2, none⟩ (.int .i32 (wrap32 (c + 1)))).alloc (.cells #[.int .i64 1, .int .i64 2, .int .i64 2, .int .i64 0, .int .i64 1, .int .i64 2, .int .i64 1, .int .i64 0, .int .i64 0, .int .i64 0, .int .i64 0, .int .i64 0] 175)).cell? ⟨w.heap.size + 1, 4, none⟩ = some (.slice a2 n2 m2) := by simp [go_sem]
 have rb5 : ((((((w.setCell ⟨gm, 1, none⟩ (.int .i32 (wrap32 (c + 1)))).alloc (.cells #[.pointer (some ⟨gm, 0, none⟩)] 47)).alloc (.cells #[.int .i64 sk, .int .i64 so, .string st, .slice a1 n1 m1, .slice a2 n2 m2, .slice a3 n3 m3, .slice a4 n4 m4, .slice a5 n5 m5] 43)).alloc (.cells #[(.int .i32 (wrap32 (c + 1)))] 21)).setCell ⟨gm, 2, none⟩ (.int .i32 (wrap32 (c + 1)))).alloc (.cells #[.int .i64 1, .int .i64 2, .int .i64 2, .int .i64 0, .int .i64 1, .int .i64 2, .int .i64 1, .int .i64 0, .int .i64 0, .int .i64 0, .int .i64 0, .int .i64 0] 175)).cell? ⟨w.heap.size + 1, 5, none⟩ = some (.slice a3 n3 m3) := by simp [go_sem]
 have rb6 : ((((((w.setCell ⟨gm, 1, none⟩ (.int .i32 (wrap32 (c + 1)))).alloc (.cells #[.pointer (some ⟨gm, 0, none⟩)] 47)).alloc (.cells #[.int .i64 sk, .int .i64 so, .string st, .slice a1 n1 m1, .slice a2 n2 m2, .slice a3 n3 m3, .slice a4 n4 m4, .slice a5 n5 m5] 43)).alloc (.cells #[(.int .i32 (wrap32 (c + 1)))] 21)).setCell ⟨gm, 2, none⟩ (.int .i32 (wrap32 (c + 1)))).alloc (.cells #[.int .i64 1, .int .i64 2, .int .i64 2, .int .i64 0, .int .i64 1, .int .i64 2, .int .i64 1, .int .i64 0, .int .i64 0, .int .i64 0, .int .i64 0, .int .i64 0] 175)).cell? ⟨w.heap.size + 1, 6, none⟩ = some (.slice a4 n4 m4) := by simp [go_sem]
 have rb7 : ((((((w.setCell ⟨gm, 1, none⟩ (.int .i32 (wrap32 (c + 1)))).alloc (.cells #[.pointer (some ⟨gm, 0, none⟩)] 47)).alloc (.cells #[.int .i64 sk, .int .i64 so, .string st, .slice a1 n1 m1, .slice a2 n2 m2, .slice a3 n3 m3, .slice a4 n4 m4, .slice a5 n5 m5] 43)).alloc (.cells #[(.int .i32 (wrap32 (c + 1)))] 21)).setCell ⟨gm, 2, none⟩ (.int .i32 (wrap32 (c + 1)))).alloc (.cells #[.int .i64 1, .int .i64 2, .int .i64 2, .int .i64 0, .int .i64 1, .int .i64 2, .int .i64 1, .int .i64 0, .int .i64 0, .int .i64 0, .int .i64 0, .int .i64 0] 175)).cell? ⟨w.heap.size + 1, 7, none⟩ = some (.slice a5 n5 m5) := by simp [go_sem]
 clear c0 c1 c2 c3 c4 c5 c6 d2 d6 g2 g6 hgA
 have HFW := Lib.hid hfw
 clear hfw
 generalize ((((((w.setCell ⟨gm, 1, none⟩ (.int .i32 (wrap32 (c + 1)))).alloc (.cells #[.pointer (some ⟨gm, 0, none⟩)] 47)).alloc (.cells #[.int .i64 sk, .int .i64 so, .string st, .slice a1 n1 m1, .slice a2 n2 m2, .slice a3 n3 m3, .slice a4 n4 m4, .slice a5 n5 m5] 43)).alloc (.cells #[(.int .i32 (wrap32 (c + 1)))] 21)).setCell ⟨gm, 2, none⟩ (.int .i32 (wrap32 (c + 1)))).alloc (.cells #[.int .i64 1, .int .i64 2, .int .i64 2, .int .i64 0, .int .i64 1, .int .i64 2, .int .i64 1, .int .i64 0, .int .i64 0, .int .i64 0, .int .i64 0, .int .i64 0] 175)) = wA at *
 refine (f33_mk W gm nm vi vf N _ HMA.out).mono ?_
 rintro e wp ⟨l0, rfl, hbp⟩
 have HBq : Hid (Below wA.heap.size wA (wp.alloc (.cells #[.pointer (some ⟨gm, 0, none⟩), .int .i32 l0, .int .i32 1] 60))) := Lib.hid (hbp.alloc hbp.size _)
 have hsz : w.heap.size + 4 ≤ wA.heap.size := by have := (HSf.out (w.heap.size + 3) (by omega) (by omega)).1; omega
 have hwp : w.heap.size + 4 ≤ wp.heap.size := Nat.le_trans hsz hbp.size
 have HMq := Lib.hid (HMA.out.after HBq.out)
 have HSq : Hid (Stp gm vi vf w vi vf (wp.alloc (.cells #[.pointer (some ⟨gm, 0, none⟩), .int .i32 l0, .int .i32 1] 60))) := Lib.hid (HSA.out.trans (Stp.of_below HBq.out))
 have HSfq : Hid (∀ k, w.heap.size ≤ k → k < w.heap.size + 4 → Safe gm vi vf (wp.alloc (.cells #[.pointer (some ⟨gm, 0, none⟩), .int .i32 l0, .int .i32 1] 60)) k) := Lib.hid (fun k h1 h2 => ((Stp.of_below HBq.out).keep k (HSf.out k h1 h2)).1)
 have HSP : Hid (Safe gm vi vf (wp.alloc (.cells #[.pointer (some ⟨gm, 0, none⟩), .int .i32 l0, .int .i32 1] 60)) wp.heap.size) := Lib.hid (HMA.out.safe_new hbp.size (lt1 _ _))
 have hbk : ∀ k q v, k < w.heap.size + 4 → wA.cell? ⟨k, q, none⟩ = some v → (wp.alloc (.cells #[.pointer (some ⟨gm, 0, none⟩), .int .i32 l0, .int .i32 1] 60)).cell? ⟨k, q, none⟩ = some v := fun k q v hk h => cell_al _ ((hbp.cell (p := ⟨k, q, none⟩) (by show k < _; omega)).trans h)
 have qa := hbk _ _ _ (by omega) ra
 have qc := hbk _ _ _ (by omega) rc
 have qk := hbk _ _ _ (by omega) rk
 have qb0 := hbk _ _ _ (by omega) rb0
 have qb1 := hbk _ _ _ (by omega) rb1
 have qb2 := hbk _ _ _ (by omega) rb2
 have qb3 := hbk _ _ _ (by omega) rb3
 have qb4 := hbk _ _ _ (by omega) rb4
 have qb5 := hbk _ _ _ (by omega) rb5
 have qb6 := hbk _ _ _ (by omega) rb6
 have qb7 := hbk _ _ _ (by omega) rb7
 have qp0 : (wp.alloc (.cells #[.pointer (some ⟨gm, 0, none⟩), .int .i32 l0, .int .i32 1] 60)).cell? ⟨wp.heap.size, 0, none⟩ = some (.pointer (some ⟨gm, 0, none⟩)) := by simp [go_sem]
 have qp1 : (wp.alloc (.cells #[.pointer (some ⟨gm, 0, none⟩), .int .i32 l0, .int .i32 1] 60)).cell? ⟨wp.heap.size, 1, none⟩ = some (.int .i32 l0) := by simp [go_sem]
 have qp2 : (wp.alloc (.cells #[.pointer (some ⟨gm, 0, none⟩), .int .i32 l0, .int .i32 1] 60)).cell? ⟨wp.heap.size, 2, none⟩ = some (.int .i32 1) := by simp [go_sem]
 clear hbp hbk ra rc rk rb0 rb1 rb2 rb3 rb4 rb5 rb6 rb7 HMA HSA HSf
 go_wp2_with fail
 refine only_normal ?_
 refine wp_region_held_drew (S := fun w' => w'.cell? ⟨w.heap.size, 0, none⟩ = some (.pointer (some ⟨gm, 0, none⟩)) ∧ w'.cell? ⟨w.heap.size + 1, 0, none⟩ = some (.int .i64 sk) ∧ w'.cell? ⟨w.heap.size + 1, 4, none⟩ = some (.slice a2 n2 m2) ∧ w'.cell? ⟨w.heap.size + 1 + 1 + 1, sk.toNat, none⟩ = some (.int .i64 fw)) (by kernel_rfl) ⟨cell_dr qa, cell_dr qb0, cell_dr qb4, cell_dr qk⟩ (fun hHeld => ?_)
 refine wpAnyH_take (i := 0) (oi := ?oQ0) (v := ?vQ0) ?hQ0 (by kernel_rfl) (by kernel_rfl) (by kernel_rfl) ?qQ0 ?yQ0 hHeld ?rQ0
 case hQ0 => (simp only [List.getElem?_toArray, List.getElem?_cons_zero]; exact rfl)
 case qQ0 => exact fun _ _ _ h => h
 case yQ0 =>
  refine Or.inl ⟨by rfl, ?_⟩
  intro Wx hSw
  (try dsimp only at hSw)
  go_simp
  (try with_reducible rfl)
 try simp only [Act.put, List.setIfInBounds_toArray, List.set_cons_zero, List.set_cons_succ]
 refine wpAnyH_take (i := 1) (oi := ?oQ1) (v := ?vQ1) ?hQ1 (by kernel_rfl) (by kernel_rfl) (by kernel_rfl) ?qQ1 ?yQ1 hHeld ?rQ1
 case hQ1 => (simp only [List.getElem?_toArray, List.getElem?_cons_succ, List.getElem?_cons_zero]; exact rfl)
 case qQ1 => exact fun _ _ _ h => h
 case yQ1 =>
  refine Or.inl ⟨by rfl, ?_⟩
  intro Wx hSw
  (try dsimp only at hSw)
  go_simp
  (try with_reducible rfl)
 try simp only [Act.put, List.setIfInBounds_toArray, List.set_cons_zero, List.set_cons_succ]
 refine wpAnyH_take (i := 2) (oi := ?oQ2) (v := ?vQ2) ?hQ2 (by kernel_rfl) (by kernel_rfl) (by kernel_rfl) ?qQ2 ?yQ2 hHeld ?rQ2
 case hQ2 => (simp only [List.getElem?_toArray, List.getElem?_cons_succ, List.getElem?_cons_zero]; exact rfl)
 case qQ2 => exact fun _ _ _ h => h
 case yQ2 =>
  refine Or.inl ⟨by rfl, ?_⟩
  intro Wx hSw
  (try dsimp only at hSw)
  go_simp
  (try with_reducible rfl)
 try simp only [Act.put, List.setIfInBounds_toArray, List.set_cons_zero, List.set_cons_succ]
 refine wpAnyH_take (i := 3) (oi := ?oQ3) (v := ?vQ3) ?hQ3 (by kernel_rfl) (by kernel_rfl) (by kernel_rfl) ?qQ3 ?yQ3 hHeld ?rQ3
 case hQ3 => (simp only [List.getElem?_toArray, List.getElem?_cons_succ, List.getElem?_cons_zero]; exact rfl)
 case qQ3 => exact fun _ _ _ h => h
 case yQ3 =>
  refine Or.inl ⟨by rfl, ?_⟩
  intro Wx hSw
  (try dsimp only at hSw)
  go_simp
  (try with_reducible rfl)
 try simp only [Act.put, List.setIfInBounds_toArray, List.set_cons_zero, List.set_cons_succ]
 refine wpAnyH_take (i := 4) (oi := ?oQ4) (v := ?vQ4) ?hQ4 (by kernel_rfl) (by kernel_rfl) (by kernel_rfl) ?qQ4 ?yQ4 hHeld ?rQ4
 case hQ4 => (simp only [List.getElem?_toArray, List.getElem?_cons_succ, List.getElem?_cons_zero]; exact rfl)
 case qQ4 => exact fun _ _ _ h => h
 case yQ4 =>
  refine Or.inl ⟨by rfl, ?_⟩
  intro Wx hSw
  (try dsimp only at hSw)
  go_simp
  (try with_reducible rfl)
 try simp only [Act.put, List.setIfInBounds_toArray, List.set_cons_zero, List.set_cons_succ]
 refine wpAnyH_take (i := 5) (oi := ?oQ5) (v := ?vQ5) ?hQ5 (by kernel_rfl) (by kernel_rfl) (by kernel_rfl) ?qQ5 ?yQ5 hHeld ?rQ5
 case hQ5 => (simp only [List.getElem?_toArray, List.getElem?_cons_succ, List.getElem?_cons_zero]; exact rfl)
 case qQ5 => exact fun _ _ _ h => h
 case yQ5 =>
  refine Or.inl ⟨by rfl, ?_⟩
  intro Wx hSw
  (try dsimp only at hSw)
  go_simp
  (try with_reducible rfl)
 try simp only [Act.put, List.setIfInBounds_toArray, List.set_cons_zero, List.set_cons_succ]
 refine wpAnyH_take (i := 6) (oi := ?oQ6) (v := ?vQ6) ?hQ6 (by kernel_rfl) (by kernel_rfl) (by kernel_rfl) ?qQ6 ?yQ6 hHeld ?rQ6
 case hQ6 => (simp only [List.getElem?_toArray, List.getElem?_cons_succ, List.getElem?_cons_zero]; exact rfl)
 case qQ6 => exact fun _ _ _ h => h
 case yQ6 =>
  refine Or.inl ⟨by rfl, ?_⟩
  intro Wx hSw
  (try dsimp only at hSw)
  go_simp
  (try with_reducible rfl)
 try simp only [Act.put, List.setIfInBounds_toArray, List.set_cons_zero, List.set_cons_succ]
 refine wpAnyH_take (i := 7) (oi := ?oQ7) (v := ?vQ7) ?hQ7 (by kernel_rfl) (by kernel_rfl) (by kernel_rfl) ?qQ7 ?yQ7 hHeld ?rQ7
 case hQ7 => (simp only [List.getElem?_toArray, List.getElem?_cons_succ, List.getElem?_cons_zero]; exact rfl)
 case qQ7 => exact fun _ _ _ h => h
 case yQ7 =>
  refine Or.inl ⟨by rfl, ?_⟩
  intro Wx hSw
  (try dsimp only at hSw)
  go_simp
  (try with_reducible rfl)
 try simp only [Act.put, List.setIfInBounds_toArray, List.set_cons_zero, List.set_cons_succ]
 refine wpAnyH_take (i := 8) (oi := ?oQ8) (v := ?vQ8) ?hQ8 (by kernel_rfl) (by kernel_rfl) (by kernel_rfl) ?qQ8 ?yQ8 hHeld ?rQ8
 case hQ8 => (simp only [List.getElem?_toArray, List.getElem?_cons_succ, List.getElem?_cons_zero]; exact rfl)
 case qQ8 => exact fun _ _ _ h => h
 case yQ8 =>
  refine Or.inl ⟨by rfl, ?_⟩
  intro Wx hSw
  (try dsimp only at hSw)
  go_simp
  (try with_reducible rfl)
 try simp only [Act.put, List.setIfInBounds_toArray, List.set_cons_zero, List.set_cons_succ]
 refine wpAnyH_ready (rs := [9]) (by kernel_rfl) (by simp) ?_
 refine AllReadyH.cons (o := ?oC9) ?hC9 (fun K hK => ?sC9) AllReadyH.nil
 case hC9 => (simp only [List.getElem?_toArray, List.getElem?_cons_succ, List.getElem?_cons_zero]; exact rfl)
 go_simp
 go_at_call 34
 refine (f34_mk W gm nm vi vf N _ (HMq.out.after (Below.drewed (Below.refl _ _)))).mono ?_
 rintro e w2 ⟨rfl, hM2, hS2⟩
 have hS2' : Stp gm vi vf (wp.alloc (.cells #[.pointer (some ⟨gm, 0, none⟩), .int .i32 l0, .int .i32 1] 60)) vi vf w2 := ⟨fun k hk => hS2.keep k hk, hS2.size⟩
 have za0 := (hS2'.cell (a := ⟨w.heap.size, 0, none⟩) (HSfq.out (w.heap.size) (by omega) (by omega))).trans qa
 have za1 := (hS2'.cell (a := ⟨w.heap.size + 1, 0, none⟩) (HSfq.out (w.heap.size + 1) (by omega) (by omega))).trans qb0
 have za2 := (hS2'.cell (a := ⟨w.heap.size + 1, 4, none⟩) (HSfq.out (w.heap.size + 1) (by omega) (by omega))).trans qb4
 have za3 := (hS2'.cell (a := ⟨w.heap.size + 1 + 1 + 1, sk.toNat, none⟩) (HSfq.out (w.heap.size + 1 + 1 + 1) (by omega) (by omega))).trans qk
 have HM2 := Lib.hid hM2
 have HS2 := Lib.hid hS2'
 clear hM2 hS2 hS2' hHeld
 refine hK.out _ _ ⟨za0, za1, za2, za3⟩ (fun hHeld => ?_)
 clear hK K
 try simp only [Act.put, List.setIfInBounds_toArray, List.set_cons_zero, List.set_cons_succ]
 refine wpAnyH_take (i := 10) (oi := ?oQ10) (v := ?vQ10) ?hQ10 (by kernel_rfl) (by kernel_rfl) (by kernel_rfl) ?qQ10 ?yQ10 hHeld ?rQ10
 case hQ10 => (simp only [List.getElem?_toArray, List.getElem?_cons_succ, List.getElem?_cons_zero]; exact rfl)
 case qQ10 => exact fun _ _ _ h => h
 case yQ10 =>
  refine Or.inl ⟨by rfl, ?_⟩
  intro Wx hSw
  (try dsimp only at hSw)
  go_simp
  (try with_reducible rfl)
 try simp only [Act.put, List.setIfInBounds_toArray, List.set_cons_zero, List.set_cons_succ]
 refine wpAnyH_take (i := 11) (oi := ?oQ11) (v := ?vQ11) ?hQ11 (by kernel_rfl) (by kernel_rfl) (by kernel_rfl) ?qQ11 ?yQ11 hHeld ?rQ11
 case hQ11 => (simp only [List.getElem?_toArray, List.getElem?_cons_succ, List.getElem?_cons_zero]; exact rfl)
 case qQ11 => exact fun _ _ _ h => h
 case yQ11 =>
  refine Or.inl ⟨by rfl, ?_⟩
  intro Wx hSw
  (try dsimp only at hSw)
  go_simp
  (try with_reducible rfl)
 try simp only [Act.put, List.setIfInBounds_toArray, List.set_cons_zero, List.set_cons_succ]
 refine wpAnyH_take (i := 12) (oi := ?oQ12) (v := ?vQ12) ?hQ12 (by kernel_rfl) (by kernel_rfl) (by kernel_rfl) ?qQ12 ?yQ12 hHeld ?rQ12
 case hQ12 => (simp only [List.getElem?_toArray, List.getElem?_cons_succ, List.getElem?_cons_zero]; exact rfl)
 case qQ12 => exact fun _ _ _ h => h
 case yQ12 =>
  refine Or.inl ⟨by rfl, ?_⟩
  intro Wx hSw
  (try dsimp only at hSw)
  go_simp
  (try with_reducible rfl)
 try simp only [Act.put, List.setIfInBounds_toArray, List.set_cons_zero, List.set_cons_succ]
 refine wpAnyH_take (i := 13) (oi := ?oQ13) (v := ?vQ13) ?hQ13 (by kernel_rfl) (by kernel_rfl) (by kernel_rfl) ?qQ13 ?yQ13 hHeld ?rQ13
 case hQ13 => (simp only [List.getElem?_toArray, List.getElem?_cons_succ, List.getElem?_cons_zero]; exact rfl)
 case qQ13 => exact fun _ _ _ h => h
 case yQ13 =>
  refine Or.inl ⟨by rfl, ?_⟩
  intro Wx hSw
  (try dsimp only at hSw)
  go_simp
  (try with_reducible rfl)
 try simp only [Act.put, List.setIfInBounds_toArray, List.set_cons_zero, List.set_cons_succ]
 refine wpAnyH_take (i := 14) (oi := ?oQ14) (v := ?vQ14) ?hQ14 (by kernel_rfl) (by kernel_rfl) (by kernel_rfl) ?qQ14 ?yQ14 hHeld ?rQ14
 case hQ14 => (simp only [List.getElem?_toArray, List.getElem?_cons_succ, List.getElem?_cons_zero]; exact rfl)
 case qQ14 => exact fun _ _ _ h => h
 case yQ14 =>
  refine Or.inl ⟨by rfl, ?_⟩
  intro Wx hSw
  (try dsimp only at hSw)
  go_simp
  (try with_reducible rfl)
 try simp only [Act.put, List.setIfInBounds_toArray, List.set_cons_zero, List.set_cons_succ]
 refine wpAnyH_take (i := 15) (oi := ?oQ15) (v := ?vQ15) ?hQ15 (by kernel_rfl) (by kernel_rfl) (by kernel_rfl) ?qQ15 ?yQ15 hHeld ?rQ15
 case hQ15 => (simp only [List.getElem?_toArray, List.getElem?_cons_succ, List.getElem?_cons_zero]; exact rfl)
 case qQ15 => exact fun _ _ _ h => h
 case yQ15 =>
  refine Or.inl ⟨by rfl, ?_⟩
  intro Wx hSw
  (try dsimp only at hSw)
  go_simp
  (try with_reducible rfl)
 try simp only [Act.put, List.setIfInBounds_toArray, List.set_cons_zero, List.set_cons_succ]
 refine wpAnyH_take (i := 16) (oi := ?oQ16) (v := ?vQ16) ?hQ16 (by kernel_rfl) (by kernel_rfl) (by kernel_rfl) ?qQ16 ?yQ16 hHeld ?rQ16
 case hQ16 => (simp only [List.getElem?_toArray, List.getElem?_cons_succ, List.getElem?_cons_zero]; exact rfl)
 case qQ16 => exact fun _ _ _ h => h
 case yQ16 =>
  refine Or.inl ⟨by rfl, ?_⟩
  intro Wx hSw
  (try dsimp only at hSw)
  go_simp
  (try with_reducible rfl)
 try simp only [Act.put, List.setIfInBounds_toArray, List.set_cons_zero, List.set_cons_succ]
 refine wpAnyH_take (i := 17) (oi := ?oQ17) (v := ?vQ17) ?hQ17 (by kernel_rfl) (by kernel_rfl) (by kernel_rfl) ?qQ17 ?yQ17 hHeld ?rQ17
 case hQ17 => (simp only [List.getElem?_toArray, List.getElem?_cons_succ, List.getElem?_cons_zero]; exact rfl)
 case qQ17 => exact fun _ _ _ h => h
 case yQ17 =>
  refine Or.inl ⟨by rfl, ?_⟩
  intro Wx hSw
  (try dsimp only at hSw)
  go_simp
  (try with_reducible rfl)
 try simp only [Act.put, List.setIfInBounds_toArray, List.set_cons_zero, List.set_cons_succ]
 refine wpAnyH_take (i := 18) (oi := ?oQ18) (v := ?vQ18) ?hQ18 (by kernel_rfl) (by kernel_rfl) (by kernel_rfl) ?qQ18 ?yQ18 hHeld ?rQ18
 case hQ18 => (simp only [List.getElem?_toArray, List.getElem?_cons_succ, List.getElem?_cons_zero]; exact rfl)
 case qQ18 => exact fun _ _ _ h => h
 case yQ18 =>
  refine Or.inl ⟨by rfl, ?_⟩
  intro Wx hSw
  (try dsimp only at hSw)
  go_simp
  (try with_reducible rfl)
 try simp only [Act.put, List.setIfInBounds_toArray, List.set_cons_zero, List.set_cons_succ]
 refine wpAnyH_take (i := 19) (oi := ?oQ19) (v := ?vQ19) ?hQ19 (by kernel_rfl) (by kernel_rfl) (by kernel_rfl) ?qQ19 ?yQ19 hHeld ?rQ19
 case hQ19 => (simp only [List.getElem?_toArray, List.getElem?_cons_succ, List.getElem?_cons_zero]; exact rfl)
 case qQ19 => exact fun _ _ _ h => h
 case yQ19 =>
  refine Or.inl ⟨by rfl, ?_⟩
  intro Wx hSw
  (try dsimp only at hSw)
  go_simp
  (try with_reducible rfl)
 try simp only [Act.put, List.setIfInBounds_toArray, List.set_cons_zero, List.set_cons_succ]
 rcases HQ.out with hb1 | ⟨rfl, rfl, rfl⟩
 ·skip
  refine wpAnyH_take (i := 20) (oi := ?oA20) (v := ?vA20) ?hA20 (by kernel_rfl) (by kernel_rfl) (by kernel_rfl) ?qA20 ?yA20 hHeld ?rA20
  case hA20 => (simp only [List.getElem?_toArray, List.getElem?_cons_succ, List.getElem?_cons_zero]; exact rfl)
  case qA20 => exact fun _ _ _ h => h
  case yA20 =>
   refine Or.inl ⟨by rfl, ?_⟩
   intro Wx hSw
   (try dsimp only at hSw)
   go_simp
   (try with_reducible rfl)
  try simp only [Act.put, List.setIfInBounds_toArray, List.set_cons_zero, List.set_cons_succ]
  refine wpAnyH_take (i := 21) (oi := ?oA21) (v := ?vA21) ?hA21 (by kernel_rfl) (by kernel_rfl) (by kernel_rfl) ?qA21 ?yA21 hHeld ?rA21
  case hA21 => (simp only [List.getElem?_toArray, List.getElem?_cons_succ, List.getElem?_cons_zero]; exact rfl)
  case qA21 => exact fun _ _ _ h => h
  case yA21 =>
   refine Or.inl ⟨by rfl, ?_⟩
   intro Wx hSw
   (try dsimp only at hSw)
   go_simp
   (try with_reducible rfl)
  try simp only [Act.put, List.setIfInBounds_toArray, List.set_cons_zero, List.set_cons_succ]
  refine wpAnyH_take (i := 22) (oi := ?oA22) (v := undef) ?hA22 (by kernel_rfl) (by kernel_rfl) (by kernel_rfl) ?qA22 ?yA22 hHeld ?rA22
  case hA22 => (simp only [List.getElem?_toArray, List.getElem?_cons_succ, List.getElem?_cons_zero]; exact rfl)
  case qA22 => exact fun _ _ _ h => h
  case yA22 => exact Or.inr ⟨by rfl, rfl⟩
  try simp only [Act.put, List.setIfInBounds_toArray, List.set_cons_zero, List.set_cons_succ]
  refine wpAnyH_take (i := 23) (oi := ?oA23) (v := undef) ?hA23 (by kernel_rfl) (by kernel_rfl) (by kernel_rfl) ?qA23 ?yA23 hHeld ?rA23
  case hA23 => (simp only [List.getElem?_toArray, List.getElem?_cons_succ, List.getElem?_cons_zero]; exact rfl)
  case qA23 => exact fun _ _ _ h => h
  case yA23 => exact Or.inr ⟨by rfl, rfl⟩
  try simp only [Act.put, List.setIfInBounds_toArray, List.set_cons_zero, List.set_cons_succ]
  refine wpAnyH_take (i := 24) (oi := ?oA24) (v := undef) ?hA24 (by kernel_rfl) (by kernel_rfl) (by kernel_rfl) ?qA24 ?yA24 hHeld ?rA24
  case hA24 => (simp only [List.getElem?_toArray, List.getElem?_cons_succ, List.getElem?_cons_zero]; exact rfl)
  case qA24 => exact fun _ _ _ h => h
  case yA24 => exact Or.inr ⟨by rfl, rfl⟩
  try simp only [Act.put, List.setIfInBounds_toArray, List.set_cons_zero, List.set_cons_succ]
  refine wpAnyH_take (i := 25) (oi := ?oA25) (v := undef) ?hA25 (by kernel_rfl) (by kernel_rfl) (by kernel_rfl) ?qA25 ?yA25 hHeld ?rA25
  case hA25 => (simp only [List.getElem?_toArray, List.getElem?_cons_succ, List.getElem?_cons_zero]; exact rfl)
  case qA25 => exact fun _ _ _ h => h
  case yA25 => exact Or.inr ⟨by rfl, rfl⟩
  try simp only [Act.put, List.setIfInBounds_toArray, List.set_cons_zero, List.set_cons_succ]
  refine wpAnyH_take (i := 26) (oi := ?oA26) (v := undef) ?hA26 (by kernel_rfl) (by kernel_rfl) (by kernel_rfl) ?qA26 ?yA26 hHeld ?rA26
  case hA26 => (simp only [List.getElem?_toArray, List.getElem?_cons_succ, List.getElem?_cons_zero]; exact rfl)
  case qA26 => exact fun _ _ _ h => h
  case yA26 => exact Or.inr ⟨by rfl, rfl⟩
  try simp only [Act.put, List.setIfInBounds_toArray, List.set_cons_zero, List.set_cons_succ]
  refine wpAnyH_take (i := 27) (oi := ?oA27) (v := undef) ?hA27 (by kernel_rfl) (by kernel_rfl) (by kernel_rfl) ?qA27 ?yA27 hHeld ?rA27
  case hA27 => (simp only [List.getElem?_toArray, List.getElem?_cons_succ, List.getElem?_cons_zero]; exact rfl)
  case qA27 => exact fun _ _ _ h => h
  case yA27 => exact Or.inr ⟨by rfl, rfl⟩
  try simp only [Act.put, List.setIfInBounds_toArray, List.set_cons_zero, List.set_cons_succ]
  refine wpAnyH_take (i := 28) (oi := ?oA28) (v := undef) ?hA28 (by kernel_rfl) (by kernel_rfl) (by kernel_rfl) ?qA28 ?yA28 hHeld ?rA28
  case hA28 => (simp only [List.getElem?_toArray, List.getElem?_cons_succ, List.getElem?_cons_zero]; exact rfl)
  case qA28 => exact fun _ _ _ h => h
  case yA28 => exact Or.inr ⟨by rfl, rfl⟩
  try simp only [Act.put, List.setIfInBounds_toArray, List.set_cons_zero, List.set_cons_succ]
  refine wpAnyH_take (i := 29) (oi := ?oA29) (v := undef) ?hA29 (by kernel_rfl) (by kernel_rfl) (by kernel_rfl) ?qA29 ?yA29 hHeld ?rA29
  case hA29 => (simp only [List.getElem?_toArray, List.getElem?_cons_succ, List.getElem?_cons_zero]; exact rfl)
  case qA29 => exact fun _ _ _ h => h
  case yA29 => exact Or.inr ⟨by rfl, rfl⟩
  try simp only [Act.put, List.setIfInBounds_toArray, List.set_cons_zero, List.set_cons_succ]
  refine wpAnyH_take (i := 30) (oi := ?oA30) (v := undef) ?hA30 (by kernel_rfl) (by kernel_rfl) (by kernel_rfl) ?qA30 ?yA30 hHeld ?rA30
  case hA30 => (simp only [List.getElem?_toArray, List.getElem?_cons_succ, List.getElem?_cons_zero]; exact rfl)
  case qA30 => exact fun _ _ _ h => h
  case yA30 => exact Or.inr ⟨by rfl, rfl⟩
  try simp only [Act.put, List.setIfInBounds_toArray, List.set_cons_zero, List.set_cons_succ]
  refine wpAnyH_take (i := 31) (oi := ?oA31) (v := ?vA31) ?hA31 (by kernel_rfl) (by kernel_rfl) (by kernel_rfl) ?qA31 ?yA31 hHeld ?rA31
  case hA31 => (simp only [List.getElem?_toArray, List.getElem?_cons_succ, List.getElem?_cons_zero]; exact rfl)
  case qA31 => exact fun _ _ _ h => h
  case yA31 =>
   refine Or.inl ⟨by rfl, ?_⟩
   intro Wx hSw
   (try dsimp only at hSw)
   go_simp
   (try with_reducible rfl)
  try simp only [Act.put, List.setIfInBounds_toArray, List.set_cons_zero, List.set_cons_succ]
  refine wpAnyH_ready (rs := [32]) (by kernel_rfl) (by simp) ?_
  refine AllReadyH.cons (o := ?oCA32) ?hCA32 (fun K hK => ?sCA32) AllReadyH.nil
  case hCA32 => (simp only [List.getElem?_toArray, List.getElem?_cons_succ, List.getElem?_cons_zero]; exact rfl)
  go_simp
  go_at_call 34
  refine (f34_mk W gm nm vi vf N _ (HM2.out)).mono ?_
  rintro e w3 ⟨rfl, hM2, hS2⟩
  have hS2' : Stp gm vi vf w2 vi vf w3 := ⟨fun k hk => hS2.keep k hk, hS2.size⟩
  have zb0 := (hS2'.cell (a := ⟨w.heap.size, 0, none⟩) (HS2.out.keep _ (HSfq.out (w.heap.size) (by omega) (by omega))).1).trans za0
  have zb1 := (hS2'.cell (a := ⟨w.heap.size + 1, 0, none⟩) (HS2.out.keep _ (HSfq.out (w.heap.size + 1) (by omega) (by omega))).1).trans za1
  have zb2 := (hS2'.cell (a := ⟨w.heap.size + 1, 4, none⟩) (HS2.out.keep _ (HSfq.out (w.heap.size + 1) (by omega) (by omega))).1).trans za2
  have zb3 := (hS2'.cell (a := ⟨w.heap.size + 1 + 1 + 1, sk.toNat, none⟩) (HS2.out.keep _ (HSfq.out (w.heap.size + 1 + 1 + 1) (by omega) (by omega))).1).trans za3
  have HM3 := Lib.hid hM2
  have HS3 := Lib.hid (HS2.out.trans hS2')
  clear hM2 hS2 hS2' hHeld
  refine hK.out _ _ ⟨zb0, zb1, zb2, zb3⟩ (fun hHeld => ?_)
  clear hK K
  try simp only [Act.put, List.setIfInBounds_toArray, List.set_cons_zero, List.set_cons_succ]
  refine wpAnyH_take (i := 33) (oi := ?oA33) (v := ?vA33) ?hA33 (by kernel_rfl) (by kernel_rfl) (by kernel_rfl) ?qA33 ?yA33 hHeld ?rA33
  case hA33 => (simp only [List.getElem?_toArray, List.getElem?_cons_succ, List.getElem?_cons_zero]; exact rfl)
  case qA33 => exact fun _ _ _ h => h
  case yA33 =>
   refine Or.inl ⟨by rfl, ?_⟩
   intro Wx hSw
   (try dsimp only at hSw)
   go_simp
   (try with_reducible rfl)
  try simp only [Act.put, List.setIfInBounds_toArray, List.set_cons_zero, List.set_cons_succ]
  refine wpAnyH_take (i := 34) (oi := ?oA34) (v := ?vA34) ?hA34 (by kernel_rfl) (by kernel_rfl) (by kernel_rfl) ?qA34 ?yA34 hHeld ?rA34
  case hA34 => (simp only [List.getElem?_toArray, List.getElem?_cons_succ, List.getElem?_cons_zero]; exact rfl)
  case qA34 => exact fun _ _ _ h => h
  case yA34 =>
   refine Or.inl ⟨by rfl, ?_⟩
   intro Wx hSw
   (try dsimp only at hSw)
   go_simp
   (try with_reducible rfl)
  try simp only [Act.put, List.setIfInBounds_toArray, List.set_cons_zero, List.set_cons_succ]
  refine wpAnyH_done (by kernel_rfl) ?_ _
  have xb0 := (HS3.out.cell (a := ⟨w.heap.size + 1, 0, none⟩) (HSfq.out (w.heap.size + 1) (by omega) (by omega))).trans qb0
  have xb1 := (HS3.out.cell (a := ⟨w.heap.size + 1, 1, none⟩) (HSfq.out (w.heap.size + 1) (by omega) (by omega))).trans qb1
  have xb2 := (HS3.out.cell (a := ⟨w.heap.size + 1, 2, none⟩) (HSfq.out (w.heap.size + 1) (by omega) (by omega))).trans qb2
  have xb3 := (HS3.out.cell (a := ⟨w.heap.size + 1, 3, none⟩) (HSfq.out (w.heap.size + 1) (by omega) (by omega))).trans qb3
  have xb4 := (HS3.out.cell (a := ⟨w.heap.size + 1, 4, none⟩) (HSfq.out (w.heap.size + 1) (by omega) (by omega))).trans qb4
  have xb5 := (HS3.out.cell (a := ⟨w.heap.size + 1, 5, none⟩) (HSfq.out (w.heap.size + 1) (by omega) (by omega))).trans qb5
  have xb6 := (HS3.out.cell (a := ⟨w.heap.size + 1, 6, none⟩) (HSfq.out (w.heap.size + 1) (by omega) (by omega))).trans qb6
  have xb7 := (HS3.out.cell (a := ⟨w.heap.size + 1, 7, none⟩) (HSfq.out (w.heap.size + 1) (by omega) (by omega))).trans qb7
  have xp0 := (HS3.out.cell (a := ⟨wp.heap.size, 0, none⟩) HSP.out).trans qp0
  have xp1 := (HS3.out.cell (a := ⟨wp.heap.size, 1, none⟩) HSP.out).trans qp1
  have xp2 := (HS3.out.cell (a := ⟨wp.heap.size, 2, none⟩) HSP.out).trans qp2
  have xa : w3.cell? ⟨w.heap.size, 0, none⟩ = some (.pointer (some ⟨gm, 0, none⟩)) := zb0
  have xc := (HS3.out.cell (a := ⟨w.heap.size + 1 + 1, 0, none⟩) (HSfq.out (w.heap.size + 1 + 1) (by omega) (by omega))).trans qc
  have HSf3 : Hid (∀ k, w.heap.size ≤ k → k < w.heap.size + 4 → Safe gm vi vf w3 k) := Lib.hid (fun k h1 h2 => (HS3.out.keep k (HSfq.out k h1 h2)).1)
  have HSP3 : Hid (Safe gm vi vf w3 wp.heap.size) := Lib.hid (HS3.out.keep _ HSP.out).1
  have HSw3 : Hid (Stp gm vi vf w vi vf w3) := Lib.hid (HSq.out.trans HS3.out)
  clear za0 za1 za2 za3 zb0 zb1 zb2 zb3 qa qc qk qb0 qb1 qb2 qb3 qb4 qb5 qb6 qb7 qp0 qp1 qp2 hHeld
  have hs := HSt.out
  clear HSt
  cases hs with
  | expr t0 hk hr =>
   obtain rfl : sk = 0 := hk
   obtain rfl : n2 = 1 := hr.len
   have HXr := Lib.hid hr
   clear hr
   unfold OnlyN
   go_wp2_with fail
   refine (f38_any W gm nm X HE.out HSh.out _ [t0] N vi vf _ HXr.out HM3.out (by have := HN.out; simp only [sizes, Tr.size, sizes_append, idt] at *; omega)).mono ?_
   rintro e w4 ⟨v4, vi4, vf4, rfl, hM4, hS4, hR4⟩
   obtain ⟨a4', n4', c4', rfl, hn4, e2, e3, hds⟩ := hR4
   obtain rfl : n4' = 1 := hn4
   obtain ⟨g0, i0, x0, rfl, hx0, hd0⟩ := hds.cell 0 (by simp)
   obtain ⟨T0, p0, rfl⟩ : ∃ T p, x0 = .iface T p := Nd.if0 hd0
   have y0 : w4.cell? ⟨g0, i0, none⟩ = some (.iface T0 p0) := hx0.2
   have HD0 : Hid (Nd (Sees w4 (New w3.heap.size gm vi4 vf4 w4)) (.iface T0 p0) t0) := Lib.hid hd0
   have HG0 := Lib.hid hx0.1.2
   have u0 := (hS4.cell (a := ⟨w.heap.size + 1, 0, none⟩) (HSf3.out (w.heap.size + 1) (by omega) (by omega))).trans xb0
   have u1 := (hS4.cell (a := ⟨w.heap.size + 1, 1, none⟩) (HSf3.out (w.heap.size + 1) (by omega) (by omega))).trans xb1
   have ua := (hS4.cell (a := ⟨w.heap.size, 0, none⟩) (HSf3.out (w.heap.size) (by omega) (by omega))).trans xa
   have uc := (hS4.cell (a := ⟨w.heap.size + 1 + 1, 0, none⟩) (HSf3.out (w.heap.size + 1 + 1) (by omega) (by omega))).trans xc
   have up0 := (hS4.cell (a := ⟨wp.heap.size, 0, none⟩) HSP3.out).trans xp0
   have up1 := (hS4.cell (a := ⟨wp.heap.size, 1, none⟩) HSP3.out).trans xp1
   have up2 := (hS4.cell (a := ⟨wp.heap.size, 2, none⟩) HSP3.out).trans xp2
   have HSf4 : Hid (∀ k, w.heap.size ≤ k → k < w.heap.size + 4 → Safe gm vi4 vf4 w4 k) := Lib.hid (fun k h1 h2 => (hS4.keep k (HSf3.out k h1 h2)).1)
   have HSP4 : Hid (Safe gm vi4 vf4 w4 wp.heap.size) := Lib.hid (hS4.keep _ HSP3.out).1
   have HM4 := Lib.hid hM4
   have HS4 : Hid (Stp gm vi vf w3 vi4 vf4 w4) := Lib.hid hS4
   clear hM4 hS4 hds hx0 hd0 xb0 xb1 xb2 xb3 xb4 xb5 xb6 xb7 xp0 xp1 xp2 xa xc
   go_wp2
   have hall : Stp gm vi vf w vi4 vf4 w4 := HSw3.out.trans HS4.out
   have hm : Mk W gm nm vi4 vf4 (N + Tr.size (.mk none [t0])) w4 := (HM4.out).more (by simp only [sizes, Tr.size]; omega)
   have hda := HD0.out.step (Stp.refl ..) (b' := w.heap.size) HSw3.out.size
   refine leaves_cons (f := 32) (args := #[.pointer (some ⟨w.heap.size + 1 + 1, 0, none⟩), .pointer (some ⟨w.heap.size, 0, none⟩)]) (by simp) (by simp [go_sem]) ?_
   refine (f32_ret W gm _ _ nm (wrap32 (c + 1)) vi4 vf4 _ _ _ (by first | exact hm.after bA | exact hm.after (Below.drewed bA) | exact hm.after (Below.drewed (Below.drewed bA))) (by first | exact cell_al _ ua | exact cell_dr (cell_al _ ua) | exact cell_dr (cell_al _ (cell_al _ ua)) | exact cell_al _ (cell_al _ ua)) (by first | exact cell_al _ uc | exact cell_dr (cell_al _ uc) | exact cell_dr (cell_al _ (cell_al _ uc)) | exact cell_al _ (cell_al _ uc))).mono ?_
   rintro e u' w'' ⟨rfl, rfl, rfl⟩
   exact ⟨_, results_tmp rfl _ _ _, made_line (by first | exact made_b (made_news (b := w.heap.size) hm hall hall.size bA fun R hc ht => .other 79 w4.heap.size [(1, .node)] _ rfl (.node _ 1 _ _ _ _ (hc _ _ _ 1 _ (heap_alloc_new w4 _) (Nat.le_refl _) rfl) (hda.mono ht) (.nil _))) | exact made_b (made_news (b := w.heap.size) hm hall hall.size (Below.drewed bA) fun R hc ht => .other 79 w4.heap.size [(1, .node)] _ rfl (.node _ 1 _ _ _ _ (hc _ _ _ 1 _ (heap_alloc_new w4 _) (Nat.le_refl _) rfl) (hda.mono ht) (.nil _))) | exact made_b (made_news (b := w.heap.size) hm hall hall.size (Below.drewed (Below.drewed bA)) fun R hc ht => .other 79 w4.heap.size [(1, .node)] _ rfl (.node _ 1 _ _ _ _ (hc _ _ _ 1 _ (heap_alloc_new w4 _) (Nat.le_refl _) rfl) (hda.mono ht) (.nil _)))) _⟩
  | assign t0 t1 hk hr =>
   obtain rfl : n2 = 2 := hr.len
   have HXr := Lib.hid hr
   clear hr
   rcases hk with hk | ⟨hk, ho1, ho2⟩
   ·obtain rfl : sk = 1 := hk
    unfold OnlyN
    go_wp2_with fail
    refine (f38_any W gm nm X HE.out HSh.out _ [t0, t1] N vi vf _ HXr.out HM3.out (by have := HN.out; simp only [sizes, Tr.size, sizes_append, idt] at *; omega)).mono ?_
    rintro e w4 ⟨v4, vi4, vf4, rfl, hM4, hS4, hR4⟩
    obtain ⟨a4', n4', c4', rfl, hn4, e2, e3, hds⟩ := hR4
    obtain rfl : n4' = 2 := hn4
    obtain ⟨g0, i0, x0, rfl, hx0, hd0⟩ := hds.cell 0 (by simp)
    obtain ⟨T0, p0, rfl⟩ : ∃ T p, x0 = .iface T p := Nd.if0 hd0
    have y0 : w4.cell? ⟨g0, i0, none⟩ = some (.iface T0 p0) := hx0.2
    have HD0 : Hid (Nd (Sees w4 (New w3.heap.size gm vi4 vf4 w4)) (.iface T0 p0) t0) := Lib.hid hd0
    obtain ⟨_, _, x1, he, hx1, hd1⟩ := hds.cell 1 (by simp)
    cases he
    obtain ⟨T1, p1, rfl⟩ : ∃ T p, x1 = .iface T p := Nd.if0 hd1
    have y1 : w4.cell? ⟨g0, i0 + 1, none⟩ = some (.iface T1 p1) := hx1.2
    have HD1 : Hid (Nd (Sees w4 (New w3.heap.size gm vi4 vf4 w4)) (.iface T1 p1) t1) := Lib.hid hd1
    have HG0 := Lib.hid hx0.1.2
    have u0 := (hS4.cell (a := ⟨w.heap.size + 1, 0, none⟩) (HSf3.out (w.heap.size + 1) (by omega) (by omega))).trans xb0
    have u1 := (hS4.cell (a := ⟨w.heap.size + 1, 1, none⟩) (HSf3.out (w.heap.size + 1) (by omega) (by omega))).trans xb1
    have ua := (hS4.cell (a := ⟨w.heap.size, 0, none⟩) (HSf3.out (w.heap.size) (by omega) (by omega))).trans xa
    have uc := (hS4.cell (a := ⟨w.heap.size + 1 + 1, 0, none⟩) (HSf3.out (w.heap.size + 1 + 1) (by omega) (by omega))).trans xc
    have up0 := (hS4.cell (a := ⟨wp.heap.size, 0, none⟩) HSP3.out).trans xp0
    have up1 := (hS4.cell (a := ⟨wp.heap.size, 1, none⟩) HSP3.out).trans xp1
    have up2 := (hS4.cell (a := ⟨wp.heap.size, 2, none⟩) HSP3.out).trans xp2
    have HSf4 : Hid (∀ k, w.heap.size ≤ k → k < w.heap.size + 4 → Safe gm vi4 vf4 w4 k) := Lib.hid (fun k h1 h2 => (hS4.keep k (HSf3.out k h1 h2)).1)
    have HSP4 : Hid (Safe gm vi4 vf4 w4 wp.heap.size) := Lib.hid (hS4.keep _ HSP3.out).1
    have HM4 := Lib.hid hM4
    have HS4 : Hid (Stp gm vi vf w3 vi4 vf4 w4) := Lib.hid hS4
    clear hM4 hS4 hds hx0 hd0 hx1 hd1 xb0 xb1 xb2 xb3 xb4 xb5 xb6 xb7 xp0 xp1 xp2 xa xc
    go_wp2_with fail
    refine only_normal ?_
    go_region_held3 (fun w' => w'.cell? ⟨wp.heap.size, 0, none⟩ = some (.pointer (some ⟨gm, 0, none⟩)) ∧ w'.cell? ⟨wp.heap.size, 1, none⟩ = some (.int .i32 l0) ∧ w'.cell? ⟨wp.heap.size, 2, none⟩ = some (.int .i32 1) ∧ w'.cell? ⟨g0, i0, none⟩ = some (.iface T0 p0) ∧ w'.cell? ⟨g0, i0 + 1, none⟩ = some (.iface T1 p1)) (go_keep) (fail)
    all_goals unfold OnlyN
    all_goals go_wp2
    have hall : Stp gm vi vf w vi4 vf4 w4 := HSw3.out.trans HS4.out
    have hm : Mk W gm nm vi4 vf4 (N + Tr.size (.mk none [t0, t1])) w4 := (HM4.out).more (by simp only [sizes, Tr.size]; omega)
    have hda := HD0.out.step (Stp.refl ..) (b' := w.heap.size) HSw3.out.size
    have hdb := HD1.out.step (Stp.refl ..) (b' := w.heap.size) HSw3.out.size
    refine leaves_cons (f := 32) (args := #[.pointer (some ⟨w.heap.size + 1 + 1, 0, none⟩), .pointer (some ⟨w.heap.size, 0, none⟩)]) (by simp) (by simp [go_sem]) ?_
    refine (f32_ret W gm _ _ nm (wrap32 (c + 1)) vi4 vf4 _ _ _ (by first | exact hm.after bA | exact hm.after (Below.drewed bA) | exact hm.after (Below.drewed (Below.drewed bA))) (by first | exact cell_al _ ua | exact cell_dr (cell_al _ ua) | exact cell_dr (cell_al _ (cell_al _ ua)) | exact cell_al _ (cell_al _ ua)) (by first | exact cell_al _ uc | exact cell_dr (cell_al _ uc) | exact cell_dr (cell_al _ (cell_al _ uc)) | exact cell_al _ (cell_al _ uc))).mono ?_
    rintro e u' w'' ⟨rfl, rfl, rfl⟩
    exact ⟨_, results_tmp rfl _ _ _, made_line (by first | exact made_b (made_news (b := w.heap.size) hm hall hall.size bA fun R hc ht => .other 88 w4.heap.size [(5, .node), (6, .node)] _ rfl (.node _ 5 _ _ _ _ (hc _ _ _ 5 _ (heap_alloc_new w4 _) (Nat.le_refl _) rfl) (hda.mono ht) (.node _ 6 _ _ _ _ (hc _ _ _ 6 _ (heap_alloc_new w4 _) (Nat.le_refl _) rfl) (hdb.mono ht) (.nil _)))) | exact made_b (made_news (b := w.heap.size) hm hall hall.size (Below.drewed bA) fun R hc ht => .other 88 w4.heap.size [(5, .node), (6, .node)] _ rfl (.node _ 5 _ _ _ _ (hc _ _ _ 5 _ (heap_alloc_new w4 _) (Nat.le_refl _) rfl) (hda.mono ht) (.node _ 6 _ _ _ _ (hc _ _ _ 6 _ (heap_alloc_new w4 _) (Nat.le_refl _) rfl) (hdb.mono ht) (.nil _)))) | exact made_b (made_news (b := w.heap.size) hm hall hall.size (Below.drewed (Below.drewed bA)) fun R hc ht => .other 88 w4.heap.size [(5, .node), (6, .node)] _ rfl (.node _ 5 _ _ _ _ (hc _ _ _ 5 _ (heap_alloc_new w4 _) (Nat.le_refl _) rfl) (hda.mono ht) (.node _ 6 _ _ _ _ (hc _ _ _ 6 _ (heap_alloc_new w4 _) (Nat.le_refl _) rfl) (hdb.mono ht) (.nil _))))) _⟩
   ·obtain rfl : sk = 2 := hk
    unfold OnlyN
    go_wp2_with fail
    refine (f38_any W gm nm X HE.out HSh.out _ [t0, t1] N vi vf _ HXr.out HM3.out (by have := HN.out; simp only [sizes, Tr.size, sizes_append, idt] at *; omega)).mono ?_
    rintro e w4 ⟨v4, vi4, vf4, rfl, hM4, hS4, hR4⟩
    obtain ⟨a4', n4', c4', rfl, hn4, e2, e3, hds⟩ := hR4
    obtain rfl : n4' = 2 := hn4
    obtain ⟨g0, i0, x0, rfl, hx0, hd0⟩ := hds.cell 0 (by simp)
    obtain ⟨T0, p0, rfl⟩ : ∃ T p, x0 = .iface T p := Nd.if0 hd0
    have y0 : w4.cell? ⟨g0, i0, none⟩ = some (.iface T0 p0) := hx0.2
    have HD0 : Hid (Nd (Sees w4 (New w3.heap.size gm vi4 vf4 w4)) (.iface T0 p0) t0) := Lib.hid hd0
    obtain ⟨_, _, x1, he, hx1, hd1⟩ := hds.cell 1 (by simp)
    cases he
    obtain ⟨T1, p1, rfl⟩ : ∃ T p, x1 = .iface T p := Nd.if0 hd1
    have y1 : w4.cell? ⟨g0, i0 + 1, none⟩ = some (.iface T1 p1) := hx1.2
    have HD1 : Hid (Nd (Sees w4 (New w3.heap.size gm vi4 vf4 w4)) (.iface T1 p1) t1) := Lib.hid hd1
    have HG0 := Lib.hid hx0.1.2
    have u0 := (hS4.cell (a := ⟨w.heap.size + 1, 0, none⟩) (HSf3.out (w.heap.size + 1) (by omega) (by omega))).trans xb0
    have u1 := (hS4.cell (a := ⟨w.heap.size + 1, 1, none⟩) (HSf3.out (w.heap.size + 1) (by omega) (by omega))).trans xb1
    have ua := (hS4.cell (a := ⟨w.heap.size, 0, none⟩) (HSf3.out (w.heap.size) (by omega) (by omega))).trans xa
    have uc := (hS4.cell (a := ⟨w.heap.size + 1 + 1, 0, none⟩) (HSf3.out (w.heap.size + 1 + 1) (by omega) (by omega))).trans xc
    have up0 := (hS4.cell (a := ⟨wp.heap.size, 0, none⟩) HSP3.out).trans xp0
    have up1 := (hS4.cell (a := ⟨wp.heap.size, 1, none⟩) HSP3.out).trans xp1
    have up2 := (hS4.cell (a := ⟨wp.heap.size, 2, none⟩) HSP3.out).trans xp2
    have HSf4 : Hid (∀ k, w.heap.size ≤ k → k < w.heap.size + 4 → Safe gm vi4 vf4 w4 k) := Lib.hid (fun k h1 h2 => (hS4.keep k (HSf3.out k h1 h2)).1)
    have HSP4 : Hid (Safe gm vi4 vf4 w4 wp.heap.size) := Lib.hid (hS4.keep _ HSP3.out).1
    have HM4 := Lib.hid hM4
    have HS4 : Hid (Stp gm vi vf w3 vi4 vf4 w4) := Lib.hid hS4
    clear hM4 hS4 hds hx0 hd0 hx1 hd1 xb0 xb1 xb2 xb3 xb4 xb5 xb6 xb7 xp0 xp1 xp2 xa xc
    go_wp2_with fail
    refine (f34_mk W gm nm vi4 vf4 _ _ HM4.out).mono ?_
    rintro e w5 ⟨rfl, hM5, hS5⟩
    have r1 := (hS5.cell (a := ⟨w.heap.size + 1, 1, none⟩) (HSf4.out (w.heap.size + 1) (by omega) (by omega))).trans u1
    have ra := (hS5.cell (a := ⟨w.heap.size, 0, none⟩) (HSf4.out (w.heap.size) (by omega) (by omega))).trans ua
    have rc := (hS5.cell (a := ⟨w.heap.size + 1 + 1, 0, none⟩) (HSf4.out (w.heap.size + 1 + 1) (by omega) (by omega))).trans uc
    have rp0 := (hS5.cell (a := ⟨wp.heap.size, 0, none⟩) HSP4.out).trans up0
    have rp1 := (hS5.cell (a := ⟨wp.heap.size, 1, none⟩) HSP4.out).trans up1
    have rp2 := (hS5.cell (a := ⟨wp.heap.size, 2, none⟩) HSP4.out).trans up2
    have z0 := (hS5.cell (a := ⟨g0, i0, none⟩) HG0.out).trans y0
    have z1 := (hS5.cell (a := ⟨g0, i0 + 1, none⟩) HG0.out).trans y1
    have HM5 := Lib.hid hM5
    have HS5 : Hid (Stp gm vi4 vf4 w4 vi4 vf4 w5) := Lib.hid hS5
    clear hM5 hS5 u0 u1 ua uc up0 up1 up2 y0 y1
    go_wp2_with fail
    refine only_normal ?_
    go_region_held3 (fun w' => w'.cell? ⟨wp.heap.size, 0, none⟩ = some (.pointer (some ⟨gm, 0, none⟩)) ∧ w'.cell? ⟨wp.heap.size, 1, none⟩ = some (.int .i32 l0) ∧ w'.cell? ⟨wp.heap.size, 2, none⟩ = some (.int .i32 1) ∧ w'.cell? ⟨g0, i0, none⟩ = some (.iface T0 p0) ∧ w'.cell? ⟨g0, i0 + 1, none⟩ = some (.iface T1 p1) ∧ w'.cell? ⟨w.heap.size + 1, 1, none⟩ = some (.int .i64 so)) (go_keep) (fail)
    all_goals unfold OnlyN
    all_goals go_wp2
    have hall : Stp gm vi vf w vi4 vf4 w5 := HSw3.out.trans (HS4.out.trans HS5.out)
    have hm : Mk W gm nm vi4 vf4 (N + Tr.size (.mk none [t0, t1])) w5 := (HM5.out).more (by simp only [sizes, Tr.size]; omega)
    have hda := HD0.out.step HS5.out (b' := w.heap.size) HSw3.out.size
    have hdb := HD1.out.step HS5.out (b' := w.heap.size) HSw3.out.size
    refine leaves_cons (f := 32) (args := #[.pointer (some ⟨w.heap.size + 1 + 1, 0, none⟩), .pointer (some ⟨w.heap.size, 0, none⟩)]) (by simp) (by simp [go_sem]) ?_
    refine (f32_ret W gm _ _ nm (wrap32 (c + 1)) vi4 vf4 _ _ _ (by first | exact hm.after bA | exact hm.after (Below.drewed bA) | exact hm.after (Below.drewed (Below.drewed bA))) (by first | exact cell_al _ ra | exact cell_dr (cell_al _ ra) | exact cell_dr (cell_al _ (cell_al _ ra)) | exact cell_al _ (cell_al _ ra)) (by first | exact cell_al _ rc | exact cell_dr (cell_al _ rc) | exact cell_dr (cell_al _ (cell_al _ rc)) | exact cell_al _ (cell_al _ rc))).mono ?_
    rintro e u' w'' ⟨rfl, rfl, rfl⟩
    exact ⟨_, results_tmp rfl _ _ _, made_line (by first | exact made_b (made_news (b := w.heap.size) hm hall hall.size bA fun R hc ht => .other 88 w5.heap.size [(5, .node), (6, .node)] _ rfl (.node _ 5 _ _ _ _ (hc _ _ _ 5 _ (heap_alloc_new w5 _) (Nat.le_refl _) rfl) (hda.mono ht) (.node _ 6 _ _ _ _ (hc _ _ _ 6 _ (heap_alloc_new w5 _) (Nat.le_refl _) rfl) (hdb.mono ht) (.nil _)))) | exact made_b (made_news (b := w.heap.size) hm hall hall.size (Below.drewed bA) fun R hc ht => .other 88 w5.heap.size [(5, .node), (6, .node)] _ rfl (.node _ 5 _ _ _ _ (hc _ _ _ 5 _ (heap_alloc_new w5 _) (Nat.le_refl _) rfl) (hda.mono ht) (.node _ 6 _ _ _ _ (hc _ _ _ 6 _ (heap_alloc_new w5 _) (Nat.le_refl _) rfl) (hdb.mono ht) (.nil _)))) | exact made_b (made_news (b := w.heap.size) hm hall hall.size (Below.drewed (Below.drewed bA)) fun R hc ht => .other 88 w5.heap.size [(5, .node), (6, .node)] _ rfl (.node _ 5 _ _ _ _ (hc _ _ _ 5 _ (heap_alloc_new w5 _) (Nat.le_refl _) rfl) (hda.mono ht) (.node _ 6 _ _ _ _ (hc _ _ _ 6 _ (heap_alloc_new w5 _) (Nat.le_refl _) rfl) (hdb.mono ht) (.nil _))))) _⟩
  | def_ ps bs hk hr hP hB h0 =>
   obtain rfl : sk = 3 := hk
   obtain rfl : n2 = 0 := hr.len
   have HPr := Lib.hid hP
   have HBr := Lib.hid hB
   have H0 := Lib.hid h0
   clear hP hB h0 hr
   unfold OnlyN
   go_wp2_with fail
   refine (f35_any W gm nm X HE.out HSh.out S HS.out HSS.out so st a1 a2 a3 a4 a5 n1 n3 n4 n5 m1 m2 m3 m4 m5 0 ps bs H0.out HPr.out HBr.out N vi vf _ HM3.out (by have := HN.out; simp only [sizes, Tr.size, sizes_append, idt] at *; omega)).mono ?_
   rintro e w4 ⟨v4, vi4, vf4, rfl, hM4, hS4, hd4⟩
   obtain ⟨T4, p4, rfl⟩ := hd4.iface
   have ua := (hS4.cell (a := ⟨w.heap.size, 0, none⟩) (HSf3.out (w.heap.size) (by omega) (by omega))).trans xa
   have uc := (hS4.cell (a := ⟨w.heap.size + 1 + 1, 0, none⟩) (HSf3.out (w.heap.size + 1 + 1) (by omega) (by omega))).trans xc
   have HM4 := Lib.hid hM4
   have HS4 : Hid (Stp gm vi vf w3 vi4 vf4 w4) := Lib.hid hS4
   have HD4 := Lib.hid hd4
   have HUA := Lib.hid ua
   have HUC := Lib.hid uc
   clear hM4 hS4 hd4 xb0 xb1 xb2 xb3 xb4 xb5 xb6 xb7 xp0 xp1 xp2 xa xc ua uc
   go_wp2
   refine leaves_cons (f := 32) (args := #[.pointer (some ⟨w.heap.size + 1 + 1, 0, none⟩), .pointer (some ⟨w.heap.size, 0, none⟩)]) (by simp) (by simp [go_sem]) ?_
   refine (f32_ret W gm _ _ nm (wrap32 (c + 1)) vi4 vf4 _ _ _ (HM4.out) (HUA.out) (HUC.out)).mono ?_
   rintro e u' w'' ⟨rfl, rfl, rfl⟩
   exact ⟨_, results_tmp rfl _ _ _, made_line (by exact ⟨_, vi4, vf4, rfl, HM4.out.more (by simp only [sizes, Tr.size, sizes_append, idt]; omega), HSw3.out.trans HS4.out, by have h4 := HD4.out.step (Stp.refl ..) (b' := w.heap.size) HSw3.out.size; first | exact h4 | simpa using h4⟩) _⟩
  | if_ t0 bs es hk hr hB h0 hL =>
   obtain rfl : sk = 4 := hk
   obtain rfl : n2 = 1 := hr.len
   have HXr := Lib.hid hr
   have HBr := Lib.hid hB
   have H0 := Lib.hid h0
   have HLr := Lib.hid hL
   clear hr hB h0 hL
   unfold OnlyN
   go_wp2_with fail
   refine (f36_4 W gm nm X HE.out HSh.out S HS.out HSS.out so st a1 a2 a3 a4 a5 n1 n3 n4 n5 m1 m2 m3 m4 m5 t0 bs es H0.out HXr.out HBr.out HLr.out N vi vf _ HM3.out (by have := HN.out; simp only [sizes, Tr.size, sizes_append, idt] at *; omega)).mono ?_
   rintro e w4 ⟨v4, vi4, vf4, rfl, hM4, hS4, hd4⟩
   obtain ⟨T4, p4, rfl⟩ := hd4.iface
   have ua := (hS4.cell (a := ⟨w.heap.size, 0, none⟩) (HSf3.out (w.heap.size) (by omega) (by omega))).trans xa
   have uc := (hS4.cell (a := ⟨w.heap.size + 1 + 1, 0, none⟩) (HSf3.out (w.heap.size + 1 + 1) (by omega) (by omega))).trans xc
   have HM4 := Lib.hid hM4
   have HS4 : Hid (Stp gm vi vf w3 vi4 vf4 w4) := Lib.hid hS4
   have HD4 := Lib.hid hd4
   have HUA := Lib.hid ua
   have HUC := Lib.hid uc
   clear hM4 hS4 hd4 xb0 xb1 xb2 xb3 xb4 xb5 xb6 xb7 xp0 xp1 xp2 xa xc ua uc
   go_wp2
   refine leaves_cons (f := 32) (args := #[.pointer (some ⟨w.heap.size + 1 + 1, 0, none⟩), .pointer (some ⟨w.heap.size, 0, none⟩)]) (by simp) (by simp [go_sem]) ?_
   refine (f32_ret W gm _ _ nm (wrap32 (c + 1)) vi4 vf4 _ _ _ (HM4.out) (HUA.out) (HUC.out)).mono ?_
   rintro e u' w'' ⟨rfl, rfl, rfl⟩
   exact ⟨_, results_tmp rfl _ _ _, made_line (by exact ⟨_, vi4, vf4, rfl, HM4.out.more (by simp only [sizes, Tr.size, sizes_append, idt]; omega), HSw3.out.trans HS4.out, by have h4 := HD4.out.step (Stp.refl ..) (b' := w.heap.size) HSw3.out.size; first | exact h4 | simpa using h4⟩) _⟩
  | for_ t0 t1 bs hk hr hB h0 =>
   obtain rfl : sk = 5 := hk
   obtain rfl : n2 = 2 := hr.len
   have HXr := Lib.hid hr
   have HBr := Lib.hid hB
   have H0 := Lib.hid h0
   clear hr hB h0
   unfold OnlyN
   go_wp2_with fail
   refine (f36_5 W gm nm X HE.out HSh.out S HS.out HSS.out so st a1 a2 a3 a4 a5 n1 n3 n4 n5 m1 m2 m3 m4 m5 t0 t1 bs H0.out HXr.out HBr.out N vi vf _ HM3.out (by have := HN.out; simp only [sizes, Tr.size, sizes_append, idt] at *; omega)).mono ?_
   rintro e w4 ⟨v4, vi4, vf4, rfl, hM4, hS4, hd4⟩
   obtain ⟨T4, p4, rfl⟩ := hd4.iface
   have ua := (hS4.cell (a := ⟨w.heap.size, 0, none⟩) (HSf3.out (w.heap.size) (by omega) (by omega))).trans xa
   have uc := (hS4.cell (a := ⟨w.heap.size + 1 + 1, 0, none⟩) (HSf3.out (w.heap.size + 1 + 1) (by omega) (by omega))).trans xc
   have HM4 := Lib.hid hM4
   have HS4 : Hid (Stp gm vi vf w3 vi4 vf4 w4) := Lib.hid hS4
   have HD4 := Lib.hid hd4
   have HUA := Lib.hid ua
   have HUC := Lib.hid uc
   clear hM4 hS4 hd4 xb0 xb1 xb2 xb3 xb4 xb5 xb6 xb7 xp0 xp1 xp2 xa xc ua uc
   go_wp2
   refine leaves_cons (f := 32) (args := #[.pointer (some ⟨w.heap.size + 1 + 1, 0, none⟩), .pointer (some ⟨w.heap.size, 0, none⟩)]) (by simp) (by simp [go_sem]) ?_
   refine (f32_ret W gm _ _ nm (wrap32 (c + 1)) vi4 vf4 _ _ _ (HM4.out) (HUA.out) (HUC.out)).mono ?_
   rintro e u' w'' ⟨rfl, rfl, rfl⟩
   exact ⟨_, results_tmp rfl _ _ _, made_line (by exact ⟨_, vi4, vf4, rfl, HM4.out.more (by simp only [sizes, Tr.size, sizes_append, idt]; omega), HSw3.out.trans HS4.out, by have h4 := HD4.out.step (Stp.refl ..) (b' := w.heap.size) HSw3.out.size; first | exact h4 | simpa using h4⟩) _⟩
  | while_ t0 bs hk hr hB h0 =>
   obtain rfl : sk = 6 := hk
   obtain rfl : n2 = 1 := hr.len
   have HXr := Lib.hid hr
   have HBr := Lib.hid hB
   have H0 := Lib.hid h0
   clear hr hB h0
   unfold OnlyN
   go_wp2_with fail
   refine (f36_6 W gm nm X HE.out HSh.out S HS.out HSS.out so st a1 a2 a3 a4 a5 n1 n3 n4 n5 m1 m2 m3 m4 m5 t0 bs H0.out HXr.out HBr.out N vi vf _ HM3.out (by have := HN.out; simp only [sizes, Tr.size, sizes_append, idt] at *; omega)).mono ?_
   rintro e w4 ⟨v4, vi4, vf4, rfl, hM4, hS4, hd4⟩
   obtain ⟨T4, p4, rfl⟩ := hd4.iface
   have ua := (hS4.cell (a := ⟨w.heap.size, 0, none⟩) (HSf3.out (w.heap.size) (by omega) (by omega))).trans xa
   have uc := (hS4.cell (a := ⟨w.heap.size + 1 + 1, 0, none⟩) (HSf3.out (w.heap.size + 1 + 1) (by omega) (by omega))).trans xc
   have HM4 := Lib.hid hM4
   have HS4 : Hid (Stp gm vi vf w3 vi4 vf4 w4) := Lib.hid hS4
   have HD4 := Lib.hid hd4
   have HUA := Lib.hid ua
   have HUC := Lib.hid uc
   clear hM4 hS4 hd4 xb0 xb1 xb2 xb3 xb4 xb5 xb6 xb7 xp0 xp1 xp2 xa xc ua uc
   go_wp2
   refine leaves_cons (f := 32) (args := #[.pointer (some ⟨w.heap.size + 1 + 1, 0, none⟩), .pointer (some ⟨w.heap.size, 0, none⟩)]) (by simp) (by simp [go_sem]) ?_
   refine (f32_ret W gm _ _ nm (wrap32 (c + 1)) vi4 vf4 _ _ _ (HM4.out) (HUA.out) (HUC.out)).mono ?_
   rintro e u' w'' ⟨rfl, rfl, rfl⟩
   exact ⟨_, results_tmp rfl _ _ _, made_line (by exact ⟨_, vi4, vf4, rfl, HM4.out.more (by simp only [sizes, Tr.size, sizes_append, idt]; omega), HSw3.out.trans HS4.out, by have h4 := HD4.out.step (Stp.refl ..) (b' := w.heap.size) HSw3.out.size; first | exact h4 | simpa using h4⟩) _⟩
  | ret0 hk hr =>
   obtain rfl : sk = 7 := hk
   obtain rfl : n2 = 0 := hr.len
   have HXr := Lib.hid hr
   clear hr
   unfold OnlyN
   go_wp2_with fail
   refine (f38_any W gm nm X HE.out HSh.out _ [] N vi vf _ HXr.out HM3.out (by have := HN.out; simp only [sizes, Tr.size, sizes_append, idt] at *; omega)).mono ?_
   rintro e w4 ⟨v4, vi4, vf4, rfl, hM4, hS4, hR4⟩
   obtain ⟨a4', n4', c4', rfl, hn4, e2, e3, hds⟩ := hR4
   obtain rfl : n4' = 0 := hn4
   have u0 := (hS4.cell (a := ⟨w.heap.size + 1, 0, none⟩) (HSf3.out (w.heap.size + 1) (by omega) (by omega))).trans xb0
   have u1 := (hS4.cell (a := ⟨w.heap.size + 1, 1, none⟩) (HSf3.out (w.heap.size + 1) (by omega) (by omega))).trans xb1
   have ua := (hS4.cell (a := ⟨w.heap.size, 0, none⟩) (HSf3.out (w.heap.size) (by omega) (by omega))).trans xa
   have uc := (hS4.cell (a := ⟨w.heap.size + 1 + 1, 0, none⟩) (HSf3.out (w.heap.size + 1 + 1) (by omega) (by omega))).trans xc
   have up0 := (hS4.cell (a := ⟨wp.heap.size, 0, none⟩) HSP3.out).trans xp0
   have up1 := (hS4.cell (a := ⟨wp.heap.size, 1, none⟩) HSP3.out).trans xp1
   have up2 := (hS4.cell (a := ⟨wp.heap.size, 2, none⟩) HSP3.out).trans xp2
   have HSf4 : Hid (∀ k, w.heap.size ≤ k → k < w.heap.size + 4 → Safe gm vi4 vf4 w4 k) := Lib.hid (fun k h1 h2 => (hS4.keep k (HSf3.out k h1 h2)).1)
   have HSP4 : Hid (Safe gm vi4 vf4 w4 wp.heap.size) := Lib.hid (hS4.keep _ HSP3.out).1
   have HM4 := Lib.hid hM4
   have HS4 : Hid (Stp gm vi vf w3 vi4 vf4 w4) := Lib.hid hS4
   clear hM4 hS4 hds xb0 xb1 xb2 xb3 xb4 xb5 xb6 xb7 xp0 xp1 xp2 xa xc
   go_wp2
   have hall : Stp gm vi vf w vi4 vf4 w4 := HSw3.out.trans HS4.out
   have hm : Mk W gm nm vi4 vf4 (N + Tr.size (.mk none [])) w4 := (HM4.out).more (by simp only [sizes, Tr.size]; omega)
   refine leaves_cons (f := 32) (args := #[.pointer (some ⟨w.heap.size + 1 + 1, 0, none⟩), .pointer (some ⟨w.heap.size, 0, none⟩)]) (by simp) (by simp [go_sem]) ?_
   refine (f32_ret W gm _ _ nm (wrap32 (c + 1)) vi4 vf4 _ _ _ (by first | exact hm.after bA | exact hm.after (Below.drewed bA) | exact hm.after (Below.drewed (Below.drewed bA))) (by first | exact cell_al _ ua | exact cell_dr (cell_al _ ua) | exact cell_dr (cell_al _ (cell_al _ ua)) | exact cell_al _ (cell_al _ ua)) (by first | exact cell_al _ uc | exact cell_dr (cell_al _ uc) | exact cell_dr (cell_al _ (cell_al _ uc)) | exact cell_al _ (cell_al _ uc))).mono ?_
   rintro e u' w'' ⟨rfl, rfl, rfl⟩
   exact ⟨_, results_tmp rfl _ _ _, made_line (by first | exact made_b (made_news (b := w.heap.size) hm hall hall.size bA fun R hc ht => .other 103 w4.heap.size [(4, .opt)] _ rfl (.none _ 4 _ _ (hc _ _ _ 4 _ (heap_alloc_new w4 _) (Nat.le_refl _) rfl) (.nil _))) | exact made_b (made_news (b := w.heap.size) hm hall hall.size (Below.drewed bA) fun R hc ht => .other 103 w4.heap.size [(4, .opt)] _ rfl (.none _ 4 _ _ (hc _ _ _ 4 _ (heap_alloc_new w4 _) (Nat.le_refl _) rfl) (.nil _))) | exact made_b (made_news (b := w.heap.size) hm hall hall.size (Below.drewed (Below.drewed bA)) fun R hc ht => .other 103 w4.heap.size [(4, .opt)] _ rfl (.none _ 4 _ _ (hc _ _ _ 4 _ (heap_alloc_new w4 _) (Nat.le_refl _) rfl) (.nil _)))) _⟩
  | ret1 t0 hk hr =>
   obtain rfl : sk = 7 := hk
   obtain rfl : n2 = 1 := hr.len
   have h1 := HFW.out
   simp at h1
   simp [← h1] at hb1
  | branch hk hr =>
   obtain rfl : n2 = 0 := hr.len
   clear hr
   rcases hk with hk | hk | hk
   ·obtain rfl : sk = 8 := hk
    unfold OnlyN
    have hw1 : IntKind.i64.wrap ((8 : Int) - 8) = 0 := by decide
    have hw2 : IntKind.i64.wrap (0 : Int) = 0 := by decide
    go_wp2_with fail
    refine only_normal ?_
    go_region_held3 (fun w' => w'.cell? ⟨wp.heap.size, 0, none⟩ = some (.pointer (some ⟨gm, 0, none⟩)) ∧ w'.cell? ⟨wp.heap.size, 1, none⟩ = some (.int .i32 l0) ∧ w'.cell? ⟨wp.heap.size, 2, none⟩ = some (.int .i32 1) ∧ w'.cell? ⟨w.heap.size + 1, 0, none⟩ = some (.int .i64 8) ∧ w'.cell? ⟨w3.heap.size, 0, none⟩ = some (.int .i8 52)) (go_keep) (fail)
    all_goals unfold OnlyN
    all_goals go_wp2
    have hall : Stp gm vi vf w vi vf w3 := HSw3.out
    have hm : Mk W gm nm vi vf (N + Tr.size (.mk none [])) w3 := HM3.out.more (by simp only [Tr.size]; omega)
    refine leaves_cons (f := 32) (args := #[.pointer (some ⟨w.heap.size + 1 + 1, 0, none⟩), .pointer (some ⟨w.heap.size, 0, none⟩)]) (by simp) (by simp [go_sem]) ?_
    refine (f32_ret W gm _ _ nm (wrap32 (c + 1)) vi vf _ _ _ (by first | exact hm.after (bA.alloc (Nat.le_of_lt (lt1 _ _)) _) | exact hm.after (Below.drewed (bA.alloc (Nat.le_of_lt (lt1 _ _)) _)) | exact hm.after (Below.drewed (Below.drewed (bA.alloc (Nat.le_of_lt (lt1 _ _)) _)))) (by first | exact cell_al _ xa | exact cell_dr (cell_al _ xa) | exact cell_dr (cell_al _ (cell_al _ xa)) | exact cell_al _ (cell_al _ xa)) (by first | exact cell_al _ xc | exact cell_dr (cell_al _ xc) | exact cell_dr (cell_al _ (cell_al _ xc)) | exact cell_al _ (cell_al _ xc))).mono ?_
    rintro e u' w'' ⟨rfl, rfl, rfl⟩
    exact ⟨_, results_tmp rfl _ _ _, made_line (by first | exact made_b (made_news (b := w.heap.size) hm hall hall.size (bA.alloc (Nat.le_of_lt (lt1 _ _)) _) fun R hc ht => .other 84 (w3.heap.size + 1) [] _ rfl (.nil _)) | exact made_b (made_news (b := w.heap.size) hm hall hall.size (Below.drewed (bA.alloc (Nat.le_of_lt (lt1 _ _)) _)) fun R hc ht => .other 84 (w3.heap.size + 1) [] _ rfl (.nil _)) | exact made_b (made_news (b := w.heap.size) hm hall hall.size (Below.drewed (Below.drewed (bA.alloc (Nat.le_of_lt (lt1 _ _)) _))) fun R hc ht => .other 84 (w3.heap.size + 1) [] _ rfl (.nil _))) _⟩
   ·obtain rfl : sk = 9 := hk
    unfold OnlyN
    have hw1 : IntKind.i64.wrap ((9 : Int) - 8) = 1 := by decide
    have hw2 : IntKind.i64.wrap (1 : Int) = 1 := by decide
    go_wp2_with fail
    refine only_normal ?_
    go_region_held3 (fun w' => w'.cell? ⟨wp.heap.size, 0, none⟩ = some (.pointer (some ⟨gm, 0, none⟩)) ∧ w'.cell? ⟨wp.heap.size, 1, none⟩ = some (.int .i32 l0) ∧ w'.cell? ⟨wp.heap.size, 2, none⟩ = some (.int .i32 1) ∧ w'.cell? ⟨w.heap.size + 1, 0, none⟩ = some (.int .i64 9) ∧ w'.cell? ⟨w3.heap.size, 1, none⟩ = some (.int .i8 53)) (go_keep) (fail)
    all_goals unfold OnlyN
    all_goals go_wp2
    have hall : Stp gm vi vf w vi vf w3 := HSw3.out
    have hm : Mk W gm nm vi vf (N + Tr.size (.mk none [])) w3 := HM3.out.more (by simp only [Tr.size]; omega)
    refine leaves_cons (f := 32) (args := #[.pointer (some ⟨w.heap.size + 1 + 1, 0, none⟩), .pointer (some ⟨w.heap.size, 0, none⟩)]) (by simp) (by simp [go_sem]) ?_
    refine (f32_ret W gm _ _ nm (wrap32 (c + 1)) vi vf _ _ _ (by first | exact hm.after (bA.alloc (Nat.le_of_lt (lt1 _ _)) _) | exact hm.after (Below.drewed (bA.alloc (Nat.le_of_lt (lt1 _ _)) _)) | exact hm.after (Below.drewed (Below.drewed (bA.alloc (Nat.le_of_lt (lt1 _ _)) _)))) (by first | exact cell_al _ xa | exact cell_dr (cell_al _ xa) | exact cell_dr (cell_al _ (cell_al _ xa)) | exact cell_al _ (cell_al _ xa)) (by first | exact cell_al _ xc | exact cell_dr (cell_al _ xc) | exact cell_dr (cell_al _ (cell_al _ xc)) | exact cell_al _ (cell_al _ xc))).mono ?_
    rintro e u' w'' ⟨rfl, rfl, rfl⟩
    exact ⟨_, results_tmp rfl _ _ _, made_line (by first | exact made_b (made_news (b := w.heap.size) hm hall hall.size (bA.alloc (Nat.le_of_lt (lt1 _ _)) _) fun R hc ht => .other 84 (w3.heap.size + 1) [] _ rfl (.nil _)) | exact made_b (made_news (b := w.heap.size) hm hall hall.size (Below.drewed (bA.alloc (Nat.le_of_lt (lt1 _ _)) _)) fun R hc ht => .other 84 (w3.heap.size + 1) [] _ rfl (.nil _)) | exact made_b (made_news (b := w.heap.size) hm hall hall.size (Below.drewed (Below.drewed (bA.alloc (Nat.le_of_lt (lt1 _ _)) _))) fun R hc ht => .other 84 (w3.heap.size + 1) [] _ rfl (.nil _))) _⟩
   ·obtain rfl : sk = 10 := hk
    unfold OnlyN
    have hw1 : IntKind.i64.wrap ((10 : Int) - 8) = 2 := by decide
    have hw2 : IntKind.i64.wrap (2 : Int) = 2 := by decide
    go_wp2_with fail
    refine only_normal ?_
    go_region_held3 (fun w' => w'.cell? ⟨wp.heap.size, 0, none⟩ = some (.pointer (some ⟨gm, 0, none⟩)) ∧ w'.cell? ⟨wp.heap.size, 1, none⟩ = some (.int .i32 l0) ∧ w'.cell? ⟨wp.heap.size, 2, none⟩ = some (.int .i32 1) ∧ w'.cell? ⟨w.heap.size + 1, 0, none⟩ = some (.int .i64 10) ∧ w'.cell? ⟨w3.heap.size, 2, none⟩ = some (.int .i8 65)) (go_keep) (fail)
    all_goals unfold OnlyN
    all_goals go_wp2
    have hall : Stp gm vi vf w vi vf w3 := HSw3.out
    have hm : Mk W gm nm vi vf (N + Tr.size (.mk none [])) w3 := HM3.out.more (by simp only [Tr.size]; omega)
    refine leaves_cons (f := 32) (args := #[.pointer (some ⟨w.heap.size + 1 + 1, 0, none⟩), .pointer (some ⟨w.heap.size, 0, none⟩)]) (by simp) (by simp [go_sem]) ?_
    refine (f32_ret W gm _ _ nm (wrap32 (c + 1)) vi vf _ _ _ (by first | exact hm.after (bA.alloc (Nat.le_of_lt (lt1 _ _)) _) | exact hm.after (Below.drewed (bA.alloc (Nat.le_of_lt (lt1 _ _)) _)) | exact hm.after (Below.drewed (Below.drewed (bA.alloc (Nat.le_of_lt (lt1 _ _)) _)))) (by first | exact cell_al _ xa | exact cell_dr (cell_al _ xa) | exact cell_dr (cell_al _ (cell_al _ xa)) | exact cell_al _ (cell_al _ xa)) (by first | exact cell_al _ xc | exact cell_dr (cell_al _ xc) | exact cell_dr (cell_al _ (cell_al _ xc)) | exact cell_al _ (cell_al _ xc))).mono ?_
    rintro e u' w'' ⟨rfl, rfl, rfl⟩
    exact ⟨_, results_tmp rfl _ _ _, made_line (by first | exact made_b (made_news (b := w.heap.size) hm hall hall.size (bA.alloc (Nat.le_of_lt (lt1 _ _)) _) fun R hc ht => .other 84 (w3.heap.size + 1) [] _ rfl (.nil _)) | exact made_b (made_news (b := w.heap.size) hm hall hall.size (Below.drewed (bA.alloc (Nat.le_of_lt (lt1 _ _)) _)) fun R hc ht => .other 84 (w3.heap.size + 1) [] _ rfl (.nil _)) | exact made_b (made_news (b := w.heap.size) hm hall hall.size (Below.drewed (Below.drewed (bA.alloc (Nat.le_of_lt (lt1 _ _)) _))) fun R hc ht => .other 84 (w3.heap.size + 1) [] _ rfl (.nil _))) _⟩
  | load hk hl => cases hl
 ·skip
  refine wpAnyH_take (i := 20) (oi := ?oB20) (v := ?vB20) ?hB20 (by kernel_rfl) (by kernel_rfl) (by kernel_rfl) ?qB20 ?yB20 hHeld ?rB20
  case hB20 => (simp only [List.getElem?_toArray, List.getElem?_cons_succ, List.getElem?_cons_zero]; exact rfl)
  case qB20 => exact fun _ _ _ h => h
  case yB20 =>
   refine Or.inl ⟨by rfl, ?_⟩
   intro Wx hSw
   (try dsimp only at hSw)
   go_simp
   (try with_reducible rfl)
  try simp only [Act.put, List.setIfInBounds_toArray, List.set_cons_zero, List.set_cons_succ]
  refine wpAnyH_take (i := 21) (oi := ?oB21) (v := ?vB21) ?hB21 (by kernel_rfl) (by kernel_rfl) (by kernel_rfl) ?qB21 ?yB21 hHeld ?rB21
  case hB21 => (simp only [List.getElem?_toArray, List.getElem?_cons_succ, List.getElem?_cons_zero]; exact rfl)
  case qB21 => exact fun _ _ _ h => h
  case yB21 =>
   refine Or.inl ⟨by rfl, ?_⟩
   intro Wx hSw
   (try dsimp only at hSw)
   go_simp
   (try with_reducible rfl)
  try simp only [Act.put, List.setIfInBounds_toArray, List.set_cons_zero, List.set_cons_succ]
  refine wpAnyH_take (i := 22) (oi := ?oB22) (v := ?vB22) ?hB22 (by kernel_rfl) (by kernel_rfl) (by kernel_rfl) ?qB22 ?yB22 hHeld ?rB22
  case hB22 => (simp only [List.getElem?_toArray, List.getElem?_cons_succ, List.getElem?_cons_zero]; exact rfl)
  case qB22 => exact fun _ _ _ h => h
  case yB22 =>
   refine Or.inl ⟨by rfl, ?_⟩
   intro Wx hSw
   (try dsimp only at hSw)
   go_simp
   (try with_reducible rfl)
  try simp only [Act.put, List.setIfInBounds_toArray, List.set_cons_zero, List.set_cons_succ]
  refine wpAnyH_take (i := 23) (oi := ?oB23) (v := ?vB23) ?hB23 (by kernel_rfl) (by kernel_rfl) (by kernel_rfl) ?qB23 ?yB23 hHeld ?rB23
  case hB23 => (simp only [List.getElem?_toArray, List.getElem?_cons_succ, List.getElem?_cons_zero]; exact rfl)
  case qB23 => exact fun _ _ _ h => h
  case yB23 =>
   refine Or.inl ⟨by rfl, ?_⟩
   intro Wx hSw
   (try dsimp only at hSw)
   go_simp
   (try with_reducible rfl)
  try simp only [Act.put, List.setIfInBounds_toArray, List.set_cons_zero, List.set_cons_succ]
  refine wpAnyH_take (i := 24) (oi := ?oB24) (v := ?vB24) ?hB24 (by kernel_rfl) (by kernel_rfl) (by kernel_rfl) ?qB24 ?yB24 hHeld ?rB24
  case hB24 => (simp only [List.getElem?_toArray, List.getElem?_cons_succ, List.getElem?_cons_zero]; exact rfl)
  case qB24 => exact fun _ _ _ h => h
  case yB24 =>
   refine Or.inl ⟨by rfl, ?_⟩
   intro Wx hSw
   (try dsimp only at hSw)
   go_simp
   (try with_reducible rfl)
  try simp only [Act.put, List.setIfInBounds_toArray, List.set_cons_zero, List.set_cons_succ]
  refine wpAnyH_take (i := 25) (oi := ?oB25) (v := ?vB25) ?hB25 (by kernel_rfl) (by kernel_rfl) (by kernel_rfl) ?qB25 ?yB25 hHeld ?rB25
  case hB25 => (simp only [List.getElem?_toArray, List.getElem?_cons_succ, List.getElem?_cons_zero]; exact rfl)
  case qB25 => exact fun _ _ _ h => h
  case yB25 =>
   refine Or.inl ⟨by rfl, ?_⟩
   intro Wx hSw
   (try dsimp only at hSw)
   go_simp
   (try with_reducible rfl)
  try simp only [Act.put, List.setIfInBounds_toArray, List.set_cons_zero, List.set_cons_succ]
  refine wpAnyH_take (i := 26) (oi := ?oB26) (v := ?vB26) ?hB26 (by kernel_rfl) (by kernel_rfl) (by kernel_rfl) ?qB26 ?yB26 hHeld ?rB26
  case hB26 => (simp only [List.getElem?_toArray, List.getElem?_cons_succ, List.getElem?_cons_zero]; exact rfl)
  case qB26 => exact fun _ _ _ h => h
  case yB26 =>
   refine Or.inl ⟨by rfl, ?_⟩
   intro Wx hSw
   (try dsimp only at hSw)
   go_simp
   (try with_reducible rfl)
  try simp only [Act.put, List.setIfInBounds_toArray, List.set_cons_zero, List.set_cons_succ]
  refine wpAnyH_take (i := 27) (oi := ?oB27) (v := ?vB27) ?hB27 (by kernel_rfl) (by kernel_rfl) (by kernel_rfl) ?qB27 ?yB27 hHeld ?rB27
  case hB27 => (simp only [List.getElem?_toArray, List.getElem?_cons_succ, List.getElem?_cons_zero]; exact rfl)
  case qB27 => exact fun _ _ _ h => h
  case yB27 =>
   refine Or.inl ⟨by rfl, ?_⟩
   intro Wx hSw
   (try dsimp only at hSw)
   go_simp
   (try with_reducible rfl)
  try simp only [Act.put, List.setIfInBounds_toArray, List.set_cons_zero, List.set_cons_succ]
  refine wpAnyH_take (i := 28) (oi := ?oB28) (v := ?vB28) ?hB28 (by kernel_rfl) (by kernel_rfl) (by kernel_rfl) ?qB28 ?yB28 hHeld ?rB28
  case hB28 => (simp only [List.getElem?_toArray, List.getElem?_cons_succ, List.getElem?_cons_zero]; exact rfl)
  case qB28 => exact fun _ _ _ h => h
  case yB28 =>
   refine Or.inl ⟨by rfl, ?_⟩
   intro Wx hSw
   (try dsimp only at hSw)
   go_simp
   (try with_reducible rfl)
  try simp only [Act.put, List.setIfInBounds_toArray, List.set_cons_zero, List.set_cons_succ]
  refine wpAnyH_take (i := 29) (oi := ?oB29) (v := ?vB29) ?hB29 (by kernel_rfl) (by kernel_rfl) (by kernel_rfl) ?qB29 ?yB29 hHeld ?rB29
  case hB29 => (simp only [List.getElem?_toArray, List.getElem?_cons_succ, List.getElem?_cons_zero]; exact rfl)
  case qB29 => exact fun _ _ _ h => h
  case yB29 =>
   refine Or.inl ⟨by rfl, ?_⟩
   intro Wx hSw
   (try dsimp only at hSw)
   go_simp
   (try with_reducible rfl)
  try simp only [Act.put, List.setIfInBounds_toArray, List.set_cons_zero, List.set_cons_succ]
  refine wpAnyH_take (i := 30) (oi := ?oB30) (v := ?vB30) ?hB30 (by kernel_rfl) (by kernel_rfl) (by kernel_rfl) ?qB30 ?yB30 hHeld ?rB30
  case hB30 => (simp only [List.getElem?_toArray, List.getElem?_cons_succ, List.getElem?_cons_zero]; exact rfl)
  case qB30 => exact fun _ _ _ h => h
  case yB30 =>
   refine Or.inl ⟨by rfl, ?_⟩
   intro Wx hSw
   (try dsimp only at hSw)
   go_simp
   (try with_reducible rfl)
  try simp only [Act.put, List.setIfInBounds_toArray, List.set_cons_zero, List.set_cons_succ]
  refine wpAnyH_take (i := 31) (oi := ?oB31) (v := ?vB31) ?hB31 (by kernel_rfl) (by kernel_rfl) (by kernel_rfl) ?qB31 ?yB31 hHeld ?rB31
  case hB31 => (simp only [List.getElem?_toArray, List.getElem?_cons_succ, List.getElem?_cons_zero]; exact rfl)
  case qB31 => exact fun _ _ _ h => h
  case yB31 =>
   refine Or.inl ⟨by rfl, ?_⟩
   intro Wx hSw
   (try dsimp only at hSw)
   go_simp
   (try with_reducible rfl)
  try simp only [Act.put, List.setIfInBounds_toArray, List.set_cons_zero, List.set_cons_succ]
  refine wpAnyH_ready (rs := [32]) (by kernel_rfl) (by simp) ?_
  refine AllReadyH.cons (o := ?oCB32) ?hCB32 (fun K hK => ?sCB32) AllReadyH.nil
  case hCB32 => (simp only [List.getElem?_toArray, List.getElem?_cons_succ, List.getElem?_cons_zero]; exact rfl)
  go_simp
  go_at_call 34
  refine (f34_mk W gm nm vi vf N _ (HM2.out)).mono ?_
  rintro e w3 ⟨rfl, hM2, hS2⟩
  have hS2' : Stp gm vi vf w2 vi vf w3 := ⟨fun k hk => hS2.keep k hk, hS2.size⟩
  have zb0 := (hS2'.cell (a := ⟨w.heap.size, 0, none⟩) (HS2.out.keep _ (HSfq.out (w.heap.size) (by omega) (by omega))).1).trans za0
  have zb1 := (hS2'.cell (a := ⟨w.heap.size + 1, 0, none⟩) (HS2.out.keep _ (HSfq.out (w.heap.size + 1) (by omega) (by omega))).1).trans za1
  have zb2 := (hS2'.cell (a := ⟨w.heap.size + 1, 4, none⟩) (HS2.out.keep _ (HSfq.out (w.heap.size + 1) (by omega) (by omega))).1).trans za2
  have zb3 := (hS2'.cell (a := ⟨w.heap.size + 1 + 1 + 1, (7 : Int).toNat, none⟩) (HS2.out.keep _ (HSfq.out (w.heap.size + 1 + 1 + 1) (by omega) (by omega))).1).trans za3
  have HM3 := Lib.hid hM2
  have HS3 := Lib.hid (HS2.out.trans hS2')
  clear hM2 hS2 hS2' hHeld
  refine hK.out _ _ ⟨zb0, zb1, zb2, zb3⟩ (fun hHeld => ?_)
  clear hK K
  try simp only [Act.put, List.setIfInBounds_toArray, List.set_cons_zero, List.set_cons_succ]
  refine wpAnyH_take (i := 33) (oi := ?oB33) (v := ?vB33) ?hB33 (by kernel_rfl) (by kernel_rfl) (by kernel_rfl) ?qB33 ?yB33 hHeld ?rB33
  case hB33 => (simp only [List.getElem?_toArray, List.getElem?_cons_succ, List.getElem?_cons_zero]; exact rfl)
  case qB33 => exact fun _ _ _ h => h
  case yB33 =>
   refine Or.inl ⟨by rfl, ?_⟩
   intro Wx hSw
   (try dsimp only at hSw)
   go_simp
   (try with_reducible rfl)
  try simp only [Act.put, List.setIfInBounds_toArray, List.set_cons_zero, List.set_cons_succ]
  refine wpAnyH_take (i := 34) (oi := ?oB34) (v := ?vB34) ?hB34 (by kernel_rfl) (by kernel_rfl) (by kernel_rfl) ?qB34 ?yB34 hHeld ?rB34
  case hB34 => (simp only [List.getElem?_toArray, List.getElem?_cons_succ, List.getElem?_cons_zero]; exact rfl)
  case qB34 => exact fun _ _ _ h => h
  case yB34 =>
   refine Or.inl ⟨by rfl, ?_⟩
   intro Wx hSw
   (try dsimp only at hSw)
   go_simp
   (try with_reducible rfl)
  try simp only [Act.put, List.setIfInBounds_toArray, List.set_cons_zero, List.set_cons_succ]
  refine wpAnyH_done (by kernel_rfl) ?_ _
  have xb0 := (HS3.out.cell (a := ⟨w.heap.size + 1, 0, none⟩) (HSfq.out (w.heap.size + 1) (by omega) (by omega))).trans qb0
  have xb1 := (HS3.out.cell (a := ⟨w.heap.size + 1, 1, none⟩) (HSfq.out (w.heap.size + 1) (by omega) (by omega))).trans qb1
  have xb2 := (HS3.out.cell (a := ⟨w.heap.size + 1, 2, none⟩) (HSfq.out (w.heap.size + 1) (by omega) (by omega))).trans qb2
  have xb3 := (HS3.out.cell (a := ⟨w.heap.size + 1, 3, none⟩) (HSfq.out (w.heap.size + 1) (by omega) (by omega))).trans qb3
  have xb4 := (HS3.out.cell (a := ⟨w.heap.size + 1, 4, none⟩) (HSfq.out (w.heap.size + 1) (by omega) (by omega))).trans qb4
  have xb5 := (HS3.out.cell (a := ⟨w.heap.size + 1, 5, none⟩) (HSfq.out (w.heap.size + 1) (by omega) (by omega))).trans qb5
  have xb6 := (HS3.out.cell (a := ⟨w.heap.size + 1, 6, none⟩) (HSfq.out (w.heap.size + 1) (by omega) (by omega))).trans qb6
  have xb7 := (HS3.out.cell (a := ⟨w.heap.size + 1, 7, none⟩) (HSfq.out (w.heap.size + 1) (by omega) (by omega))).trans qb7
  have xp0 := (HS3.out.cell (a := ⟨wp.heap.size, 0, none⟩) HSP.out).trans qp0
  have xp1 := (HS3.out.cell (a := ⟨wp.heap.size, 1, none⟩) HSP.out).trans qp1
  have xp2 := (HS3.out.cell (a := ⟨wp.heap.size, 2, none⟩) HSP.out).trans qp2
  have xa : w3.cell? ⟨w.heap.size, 0, none⟩ = some (.pointer (some ⟨gm, 0, none⟩)) := zb0
  have xc := (HS3.out.cell (a := ⟨w.heap.size + 1 + 1, 0, none⟩) (HSfq.out (w.heap.size + 1 + 1) (by omega) (by omega))).trans qc
  have HSf3 : Hid (∀ k, w.heap.size ≤ k → k < w.heap.size + 4 → Safe gm vi vf w3 k) := Lib.hid (fun k h1 h2 => (HS3.out.keep k (HSfq.out k h1 h2)).1)
  have HSP3 : Hid (Safe gm vi vf w3 wp.heap.size) := Lib.hid (HS3.out.keep _ HSP.out).1
  have HSw3 : Hid (Stp gm vi vf w vi vf w3) := Lib.hid (HSq.out.trans HS3.out)
  clear za0 za1 za2 za3 zb0 zb1 zb2 zb3 qa qc qk qb0 qb1 qb2 qb3 qb4 qb5 qb6 qb7 qp0 qp1 qp2 hHeld
  obtain ⟨t0, hr, rfl⟩ := HSt.out.ret
  have HXr := Lib.hid hr
  clear hr HSt
  unfold OnlyN
  go_wp2_with fail
  refine (f38_any W gm nm X HE.out HSh.out _ [t0] N vi vf _ HXr.out HM3.out (by have := HN.out; simp only [sizes, Tr.size, sizes_append, idt] at *; omega)).mono ?_
  rintro e w4 ⟨v4, vi4, vf4, rfl, hM4, hS4, hR4⟩
  obtain ⟨a4', n4', c4', rfl, hn4, e2, e3, hds⟩ := hR4
  obtain rfl : n4' = 1 := hn4
  obtain ⟨g0, i0, x0, rfl, hx0, hd0⟩ := hds.cell 0 (by simp)
  obtain ⟨T0, p0, rfl⟩ : ∃ T p, x0 = .iface T p := Nd.if0 hd0
  have y0 : w4.cell? ⟨g0, i0, none⟩ = some (.iface T0 p0) := hx0.2
  have HD0 : Hid (Nd (Sees w4 (New w3.heap.size gm vi4 vf4 w4)) (.iface T0 p0) t0) := Lib.hid hd0
  have HG0 := Lib.hid hx0.1.2
  have u0 := (hS4.cell (a := ⟨w.heap.size + 1, 0, none⟩) (HSf3.out (w.heap.size + 1) (by omega) (by omega))).trans xb0
  have u1 := (hS4.cell (a := ⟨w.heap.size + 1, 1, none⟩) (HSf3.out (w.heap.size + 1) (by omega) (by omega))).trans xb1
  have ua := (hS4.cell (a := ⟨w.heap.size, 0, none⟩) (HSf3.out (w.heap.size) (by omega) (by omega))).trans xa
  have uc := (hS4.cell (a := ⟨w.heap.size + 1 + 1, 0, none⟩) (HSf3.out (w.heap.size + 1 + 1) (by omega) (by omega))).trans xc
  have up0 := (hS4.cell (a := ⟨wp.heap.size, 0, none⟩) HSP3.out).trans xp0
  have up1 := (hS4.cell (a := ⟨wp.heap.size, 1, none⟩) HSP3.out).trans xp1
  have up2 := (hS4.cell (a := ⟨wp.heap.size, 2, none⟩) HSP3.out).trans xp2
  have HSf4 : Hid (∀ k, w.heap.size ≤ k → k < w.heap.size + 4 → Safe gm vi4 vf4 w4 k) := Lib.hid (fun k h1 h2 => (hS4.keep k (HSf3.out k h1 h2)).1)
  have HSP4 : Hid (Safe gm vi4 vf4 w4 wp.heap.size) := Lib.hid (hS4.keep _ HSP3.out).1
  have HM4 := Lib.hid hM4
  have HS4 : Hid (Stp gm vi vf w3 vi4 vf4 w4) := Lib.hid hS4
  clear hM4 hS4 hds hx0 hd0 xb0 xb1 xb2 xb3 xb4 xb5 xb6 xb7 xp0 xp1 xp2 xa xc
  have hg0 : g0 < w4.heap.size := World.block_lt_of_cell? w4 _ y0
  have y0n : (w4.alloc (.cells #[.pointer none, .pointer (some ⟨gm, 0, none⟩), .int .i32 l0, .int .i32 1, .nilIface] 105)).cell? ⟨g0, i0, none⟩ = some (.iface T0 p0) := cell_al _ y0
  go_wp2
  have hall : Stp gm vi vf w vi4 vf4 w4 := HSw3.out.trans HS4.out
  have hm : Mk W gm nm vi4 vf4 (N + Tr.size (.mk none [t0])) w4 := (HM4.out).more (by simp only [sizes, Tr.size]; omega)
  have hda := HD0.out.step (Stp.refl ..) (b' := w.heap.size) HSw3.out.size
  refine leaves_cons (f := 32) (args := #[.pointer (some ⟨w.heap.size + 1 + 1, 0, none⟩), .pointer (some ⟨w.heap.size, 0, none⟩)]) (by simp) (by simp [go_sem]) ?_
  refine (f32_ret W gm _ _ nm (wrap32 (c + 1)) vi4 vf4 _ _ _ (by first | exact hm.after bA | exact hm.after (Below.drewed bA) | exact hm.after (Below.drewed (Below.drewed bA))) (by first | exact cell_al _ ua | exact cell_dr (cell_al _ ua) | exact cell_dr (cell_al _ (cell_al _ ua)) | exact cell_al _ (cell_al _ ua)) (by first | exact cell_al _ uc | exact cell_dr (cell_al _ uc) | exact cell_dr (cell_al _ (cell_al _ uc)) | exact cell_al _ (cell_al _ uc))).mono ?_
  rintro e u' w'' ⟨rfl, rfl, rfl⟩
  exact ⟨_, results_tmp rfl _ _ _, made_line (by first | exact made_b (made_news (b := w.heap.size) hm hall hall.size bA fun R hc ht => .other 103 w4.heap.size [(4, .opt)] _ rfl (.opt _ 4 _ _ _ _ (hc _ _ _ 4 _ (heap_alloc_new w4 _) (Nat.le_refl _) rfl) (hda.mono ht) (.nil _))) | exact made_b (made_news (b := w.heap.size) hm hall hall.size (Below.drewed bA) fun R hc ht => .other 103 w4.heap.size [(4, .opt)] _ rfl (.opt _ 4 _ _ _ _ (hc _ _ _ 4 _ (heap_alloc_new w4 _) (Nat.le_refl _) rfl) (hda.mono ht) (.nil _))) | exact made_b (made_news (b := w.heap.size) hm hall hall.size (Below.drewed (Below.drewed bA)) fun R hc ht => .other 103 w4.heap.size [(4, .opt)] _ rfl (.opt _ 4 _ _ _ _ (hc _ _ _ 4 _ (heap_alloc_new w4 _) (Nat.le_refl _) rfl) (hda.mono ht) (.nil _)))) _⟩
end Go.Proofs.YtabeokminikfdaaGreat
