import Derived.Deep.RegionHeld3
import Derived.StillTail
import Derived.WalkKit
set_option linter.all false
namespace Go.Proofs.YtabeokminikfdaaGreat
open Go.RowKit
section
variable {P : Program} {ops : Array Oper} {Q : Exit → Act → World → Prop} {md : Region.Mode} {L : World → Prop} {p : Nat}
def AnyBut (P : Program) (md : Region.Mode) (ops : Array Oper) (Q : Exit → Act → World → Prop) (L : World → Prop) (p : Nat) : Nat → Array Bool → Act → World → Prop
 | 0, ls, a, w => Region.ready md ops ls = [] ∧ Q .normal a w
 | n + 1, ls, a, w => (Region.ready md ops ls = [] → Q .normal a w) ∧
  ∀ i ∈ Region.ready md ops ls, wpOp P ops Q i (fun a' w' => (i ≠ p → L w') ∧ AnyBut P md ops Q L p n (ls.setIfInBounds i true) a' w') a w
theorem AnyBut.any : ∀ (n : Nat) (ls : Array Bool) (a : Act) (w : World), AnyBut P md ops Q L p n ls a w → wpAny P md ops Q n ls a w
 | 0, _, _, _, h => h
 | n + 1, _, _, _, h => ⟨h.1, fun i hi => wpOp_mono (fun a' w' h' => AnyBut.any n _ a' w' h'.2) (h.2 i hi)⟩
theorem not_ready_of_waits {i : Nat} {ls : Array Bool} (hw : Region.waitsFor md ops p i = true) (hun : ls.getD i true = false) : p ∉ Region.ready md ops ls := fun hr => by
 obtain ⟨o, ho, e, he, hb, hon⟩ := Region.waitsFor_spec hw
 obtain ⟨_, o', ho', hall⟩ := mem_ready.1 hr
 obtain rfl : o = o' := Option.some.inj (ho.symm.trans ho')
 have h1 := hall e he hb
 rw [hon, getD_both hun] at h1
 cases h1
theorem AnyBut.first {i : Nat} {oi : Oper} {v : Value} (hi : ops[i]? = some oi) (hsel : ∀ (j : Nat) (o : Oper) cs b, ops[j]? = some o → o.op ≠ .select cs b)
  (hQ : ∀ c a w, Q (.panic c) (a.put oi.dst v) w → Q (.panic c) a w) (hp : Region.waitsFor md ops p i = true) (hip : i ≠ p) :
  ∀ (n : Nat) (ls : Array Bool) (a : Act) (w : World), (∀ j oj, ops[j]? = some oj → j ≠ i → ls.getD j true = false → (∀ e ∈ oj.after, Region.binds md e = true → e.on ≠ i) → oi.apart ops oj = true) →
   i ∈ Region.ready md ops ls → YieldsIf P ops L oi v a → L w → AnyBut P md ops Q L p n (ls.setIfInBounds i true) (a.put oi.dst v) w → AnyBut P md ops Q L p (n + 1) ls a w := by
 intro n
 induction n with
 | zero =>
  intro ls a w _ hr hy hL h
  refine ⟨fun e => (by rw [e] at hr; cases hr), fun j hj => ?_⟩
  by_cases hji : j = i
  ·subst hji
   exact hy.wpOp hi hL ⟨fun _ => hL, h⟩
  ·have := ready_mono hj hji
   rw [h.1] at this
   cases this
 | succ n ih =>
  intro ls a w hfree hr hy hL h
  refine ⟨fun e => (by rw [e] at hr; cases hr), fun j hj => ?_⟩
  by_cases hji : j = i
  ·subst hji
   exact hy.wpOp hi hL ⟨fun _ => hL, h⟩
  ·have hun := (mem_ready.1 hr).1
   have hjp : j ≠ p := fun e => not_ready_of_waits hp hun (e ▸ hj)
   obtain ⟨hjun, oj, hoj, hall⟩ := mem_ready.1 hj
   have hnot : ∀ e ∈ oj.after, Region.binds md e = true → e.on ≠ i := fun e he hb heq => by
    have h1 := hall e he hb
    rw [heq, getD_both hun] at h1
    cases h1
   have h2 := wpOp_putIf hoj (hfree j oj hoj hji hjun hnot) (fun cs b => hsel i oi cs b hi) (fun cs b => hsel j oj cs b hoj) hQ hy (h.2 j (ready_mono hj hji))
   refine wpOp_mono (fun a' w' h3 => ⟨h3.2.1, ih (ls.setIfInBounds j true) a' w' ?_ (ready_mono hr (Ne.symm hji)) h3.1 (h3.2.1 hjp) ?_⟩) h2
   ·intro k ok hk hki hun' hno
    refine hfree k ok hk hki ?_ hno
    by_cases hjk : j = k
    ·subst hjk
     exact hjun
    ·rwa [getD_set_ne true hjk] at hun'
   ·rw [Array.setIfInBounds_comm _ _ hji]
    exact h3.2.2
theorem AnyBut.take {i : Nat} {oi : Oper} {v : Value} {n : Nat} {ls : Array Bool} {a : Act} {w : World} (hi : ops[i]? = some oi)
  (hs : Region.noSelect ops = true) (hf : Region.free md ops ls i = true) (hr : (Region.ready md ops ls).contains i = true) (hp : (Region.waitsFor md ops p i && decide (i ≠ p)) = true)
  (hQ : ∀ c a w, Q (.panic c) (a.put oi.dst v) w → Q (.panic c) a w) (hy : YieldsIf P ops L oi v a) (hL : L w)
  (h : AnyBut P md ops Q L p n (ls.setIfInBounds i true) (a.put oi.dst v) w) : AnyBut P md ops Q L p (n + 1) ls a w := by
 simp only [Bool.and_eq_true, decide_eq_true_eq] at hp
 exact AnyBut.first hi (Region.noSelect_spec hs) hQ hp.1 hp.2 n ls a w (Region.free_spec hi hf) (by simpa using hr) hy hL h
def Comes (P : Program) (md : Region.Mode) (ops : Array Oper) (Q : Exit → Act → World → Prop) (L : World → Prop) (p n : Nat) (ls : Array Bool) (a : Act) (w : World) (rs : List Nat) : Prop :=
 ∀ i ∈ rs, wpOp P ops Q i (fun a' w' => (i ≠ p → L w') ∧ AnyBut P md ops Q L p n (ls.setIfInBounds i true) a' w') a w
theorem Comes.nil {n : Nat} {ls : Array Bool} {a : Act} {w : World} : Comes P md ops Q L p n ls a w [] := fun _ h => by cases h
theorem Comes.cons {n : Nat} {ls : Array Bool} {a : Act} {w : World} {i : Nat} {o : Oper} {rs : List Nat} (ho : ops[i]? = some o)
  (h : ∀ K' : Act → World → Prop, Shut (∀ a w, (i ≠ p → L w) → AnyBut P md ops Q L p n (ls.setIfInBounds i true) a w → K' a w) → if Region.wanted o (yielded ops a.tmps) = true then Oper.wp P o a w K' Q else K' (a.put o.dst undef) w)
  (hs : Comes P md ops Q L p n ls a w rs) : Comes P md ops Q L p n ls a w (i :: rs) := fun j hj => by
 rcases List.mem_cons.1 hj with rfl | hj
 ·exact wpOp_step ho (fun K' hK => h K' (fun a w hL hW => hK a w ⟨hL, hW⟩))
 ·exact hs j hj
theorem AnyBut.ready {rs : List Nat} {n : Nat} {ls : Array Bool} {a : Act} {w : World} (hr : Region.ready md ops ls = rs) (hne : rs ≠ []) (h : Comes P md ops Q L p n ls a w rs) : AnyBut P md ops Q L p (n + 1) ls a w :=
 ⟨fun h0 => absurd (hr ▸ h0) hne, hr ▸ h⟩
theorem AnyBut.done {ls : Array Bool} {a : Act} {w : World} (hr : Region.ready md ops ls = []) (h : Q .normal a w) : ∀ n, AnyBut P md ops Q L p n ls a w
 | 0 => ⟨hr, h⟩
 | _ + 1 => ⟨fun _ => h, by rw [hr]; simp⟩
theorem wp_region_but {id : Nat} {a : Act} {w : World} (L : World → Prop) (p : Nat) (hm : P.follows .mixedOrders = true) (h : AnyBut P .any ops Q L p ops.size (Array.replicate ops.size false) a w.drew) : (Code.region id ops true).wp P Q a w :=
 wp_region_any hm (AnyBut.any _ _ _ _ h)
end
end Go.Proofs.YtabeokminikfdaaGreat
