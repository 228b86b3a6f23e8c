/- append onto a slice of the call's own: where the answer's block is. No program in sight. -/
import Derived.WalkKit
import Derived.Laws.AppendOwn
import Derived.Laws.OwnMore
namespace Go.Proofs.YtllgogkjcbdpkaaGreatDoor
open Go.RowKit

theorem own_le {w : World} {B B' : Nat} {e : TypeId} {z : Nat} {v : Value} {n : Nat} {xs : List Value} (h : w.ownsRow B e z v n xs) (hB : B' ≤ B) : w.ownsRow B' e z v n xs := by
  refine ⟨h.1, ?_⟩
  rcases h.2 with h2 | ⟨g, cap, cur, p, q, r⟩
  · exact .inl h2
  · exact .inr ⟨g, cap, cur, p, Nat.le_trans hB q, r⟩
/-- The answer's block is the slice's own, or a new one. -/
def BlockOf (w : World) (v v' : Value) : Prop := v'.ownBlock = v.ownBlock ∨ ∃ g, v'.ownBlock = some g ∧ w.heap.size ≤ g
/-- What append is given: nothing, or cells that lie there. -/
def SrcAt (w : World) (x : Value) (m : Nat) (news : List Value) : Prop := (x = .slice none 0 0 ∧ m = 0 ∧ news = []) ∨ ∃ ad c, x = .slice (some ad) m c ∧ ∀ j u, news[j]? = some u → w.cell? (ad.add j) = some u
theorem SrcAt.own {w : World} {B : Nat} {e : TypeId} {z : Nat} {v : Value} {n : Nat} {xs : List Value} (h : w.ownsRow B e z v n xs) : SrcAt w v n xs := by
  rcases h.2 with ⟨rfl, rfl⟩ | ⟨g, cap, cur, rfl, hb, hg, hn, hm, hc, ht⟩
  · exact .inl ⟨rfl, rfl, List.eq_nil_of_length_eq_zero (by simpa using h.1)⟩
  · exact .inr ⟨_, _, rfl, World.ownsRow.cells h rfl⟩
theorem run_append_blk {P : Program} (w : World) (base : Nat) (t ty e : TypeId) (i : TypeInfo) (z : Value) (size bytes : Nat) (ht : P.underlying t = some (.slice e)) (hi : P.info? e = some i) (hz : i.zero = some z)
    (hsize : i.size = size) (hby : i.bytes = bytes) (hzs : z.cells.size = size) (hsz : 0 < size)
    (v : Value) (n : Nat) (xs : List Value) (hown : w.ownsRow base e size v n xs)
    (x : Value) (m : Nat) (news : List Value) (hx : SrcAt w x m news) (hl : news.length = m * size) (h1 : ∀ u ∈ news, u.oneCell' = true)
    (h63 : n + m ≤ maxLen) (hbytes : (n + m) * bytes ≤ 140737488355328) (hbase : base ≤ w.heap.size) :
    ∃ v' w', (Builtin.append_ #[t, t] ty #[v, x]).run P w = .ok v' w' ∧ w'.ownsRow base e size v' (n + m) (xs ++ news) ∧ w.grownBy w' v.ownBlock ∧ BlockOf w v v' := by
  rcases hx with ⟨rfl, rfl, rfl⟩ | ⟨a, c, rfl, hnews⟩
  · exact ⟨v, w, run_append_owned_none (P := P) w base t ty e i size ht hi v n xs hown, by simpa using hown, World.grownBy.refl _ _, .inl rfl⟩
  rcases hown.2 with ⟨rfl, rfl⟩ | ⟨g, cap, cur, rfl, hbg, hg, hnc, hcm, hcs, htake⟩
  · have ho : w.ownsRow w.heap.size e size (.slice none 0 0) 0 xs := ⟨hown.1, .inl ⟨rfl, rfl⟩⟩
    obtain ⟨v', w', hr, h2, h3, h4⟩ := run_append_own (P := P) w w.heap.size t ty e i z size bytes ht hi hz hsize hby hzs hsz _ 0 xs ho a m c news hl hnews h1 h63 hbytes (Nat.le_refl _)
    refine ⟨v', w', hr, own_le h2 hbase, h3, ?_⟩
    cases hv : v'.ownBlock with
    | none => exact .inl (by rw [hv]; rfl)
    | some g => exact .inr ⟨g, hv, (World.ownsRow.lt h2 g hv).1⟩
  · by_cases hroom : n + m ≤ cap
    · obtain ⟨w', hr, h2, h3⟩ := run_append_fits (P := P) w base t ty e i size ht hi hsize g n cap xs hown a m c news hl hnews h1 hroom
      exact ⟨_, w', hr, h2, h3, .inl rfl⟩
    · obtain ⟨v', w', hr, h2, h3, h4⟩ := run_append_own (P := P) w base t ty e i z size bytes ht hi hz hsize hby hzs hsz _ n xs hown a m c news hl hnews h1 h63 hbytes hbase
      have hr2 := run_append_grow (P := P) w t ty e i z ht hi hz ⟨g, 0, none⟩ n cap xs (by rw [hown.1, hsize]) (World.ownsRow.cells hown rfl) a m c news (by rw [hl, hsize]) hnews (by omega) (by simp only [maxLen] at h63; omega) (growslice_fits (by omega) (by rw [hby]; exact hbytes))
      rw [hr2] at hr
      have hv : v' = _ := (Result.ok.inj hr).1.symm
      refine ⟨v', w', ?_, h2, h3, .inr ⟨w.heap.size, by rw [hv]; rfl, Nat.le_refl _⟩⟩
      rw [hr2]; exact hr
theorem wp_append_blk {P : Program} {w : World} {o : Oper} {a : Act} {K : Act → World → Prop} {Q : Exit → Act → World → Prop} (s x : Operand) (t : TypeId)
    (ho : o.op = .call { callee := .builtin .append, args := #[s, x], argTypes := #[t, t] })
    (base : Nat) (e : TypeId) (i : TypeInfo) (z : Value) (size bytes : Nat) (ht : P.underlying t = some (.slice e)) (hi : P.info? e = some i) (hz : i.zero = some z)
    (hsize : i.size = size) (hby : i.bytes = bytes) (hzs : z.cells.size = size) (hsz : 0 < size)
    (v : Value) (n : Nat) (xs : List Value) (hs : a.eval s = v) (hown : w.ownsRow base e size v n xs)
    (vx : Value) (m : Nat) (news : List Value) (hx : a.eval x = vx) (hsrc : SrcAt w vx m news) (hl : news.length = m * size) (h1 : ∀ u ∈ news, u.oneCell' = true)
    (h63 : n + m ≤ maxLen) (hbytes : (n + m) * bytes ≤ 140737488355328) (hbase : base ≤ w.heap.size)
    (h : ∀ v' w', w'.ownsRow base e size v' (n + m) (xs ++ news) → w.grownBy w' v.ownBlock → BlockOf w v v' → K (a.put o.dst v') w') : o.wp P a w K Q := by
  obtain ⟨v', w', hr, h2, h3, h4⟩ := run_append_blk (P := P) w base t o.type e i z size bytes ht hi hz hsize hby hzs hsz v n xs hown vx m news hsrc hl h1 h63 hbytes hbase
  unfold Oper.wp execOp
  simp only [ho, resolve, invoke, builtin, Sem.run_bind, Sem.run_pure, Result.andThen_ok, List.map_toArray, List.map_cons, List.map_nil, hs, hx, hr]
  exact h v' w' h2 h3 h4
theorem wpList_append_blk {P : Program} {w : World} {ops : Array Oper} {rest : List Oper} {o : Oper} {a : Act} {Q : Exit → Act → World → Prop} (hgd : o.guard = none) (s x : Operand) (t : TypeId)
    (ho : o.op = .call { callee := .builtin .append, args := #[s, x], argTypes := #[t, t] })
    (base : Nat) (e : TypeId) (i : TypeInfo) (z : Value) (size bytes : Nat) (ht : P.underlying t = some (.slice e)) (hi : P.info? e = some i) (hz : i.zero = some z)
    (hsize : i.size = size) (hby : i.bytes = bytes) (hzs : z.cells.size = size) (hsz : 0 < size)
    (v : Value) (n : Nat) (xs : List Value) (hs : a.eval s = v) (hown : w.ownsRow base e size v n xs)
    (vx : Value) (m : Nat) (news : List Value) (hx : a.eval x = vx) (hsrc : SrcAt w vx m news) (hl : news.length = m * size) (h1 : ∀ u ∈ news, u.oneCell' = true)
    (h63 : n + m ≤ maxLen) (hbytes : (n + m) * bytes ≤ 140737488355328) (hbase : base ≤ w.heap.size)
    (h : ∀ v' w', w'.ownsRow base e size v' (n + m) (xs ++ news) → w.grownBy w' v.ownBlock → BlockOf w v v' → wpList P ops Q rest (a.put o.dst v') w') : wpList P ops Q (o :: rest) a w :=
  wpList_plain hgd fun _ hK => wp_append_blk s x t ho base e i z size bytes ht hi hz hsize hby hzs hsz v n xs hs hown vx m news hx hsrc hl h1 h63 hbytes hbase fun v' w' h2 h3 h4 => hK _ _ (h v' w' h2 h3 h4)
theorem step_append_blk {P : Program} {w : World} {ops : Array Oper} {o : Oper} {a : Act} {K : Act → World → Prop} {Q : Exit → Act → World → Prop} {E : Prop} (hgd : o.guard = none) (s x : Operand) (t : TypeId)
    (ho : o.op = .call { callee := .builtin .append, args := #[s, x], argTypes := #[t, t] })
    (base : Nat) (e : TypeId) (i : TypeInfo) (z : Value) (size bytes : Nat) (ht : P.underlying t = some (.slice e)) (hi : P.info? e = some i) (hz : i.zero = some z)
    (hsize : i.size = size) (hby : i.bytes = bytes) (hzs : z.cells.size = size) (hsz : 0 < size)
    (v : Value) (n : Nat) (xs : List Value) (hs : a.eval s = v) (hown : w.ownsRow base e size v n xs)
    (vx : Value) (m : Nat) (news : List Value) (hx : a.eval x = vx) (hsrc : SrcAt w vx m news) (hl : news.length = m * size) (h1 : ∀ u ∈ news, u.oneCell' = true)
    (h63 : n + m ≤ maxLen) (hbytes : (n + m) * bytes ≤ 140737488355328) (hbase : base ≤ w.heap.size)
    (h : ∀ v' w', w'.ownsRow base e size v' (n + m) (xs ++ news) → w.grownBy w' v.ownBlock → BlockOf w v v' → K (a.put o.dst v') w') : if Region.wanted o (yielded ops a.tmps) = true then Oper.wp P o a w K Q else E := by
  have hw : Region.wanted o (yielded ops a.tmps) = true := by simp [Region.wanted, hgd]
  rw [if_pos hw]
  exact wp_append_blk s x t ho base e i z size bytes ht hi hz hsize hby hzs hsz v n xs hs hown vx m news hx hsrc hl h1 h63 hbytes hbase h
end Go.Proofs.YtllgogkjcbdpkaaGreatDoor
