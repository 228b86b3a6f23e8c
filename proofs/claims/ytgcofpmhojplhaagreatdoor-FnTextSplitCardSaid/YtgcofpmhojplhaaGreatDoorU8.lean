/- The walk of the thin package's TextSplit. (Printed by mku8.py.) -/
import Derived.Test.YtgcofpmhojplhaaGreatDoorU7
import Derived.Test.YtgcofpmhojplhaaGreatDoorR8
namespace Go.Proofs.YtgcofpmhojplhaaGreatDoor
open Go.RowKit

/-- A slice of one string as a value, the call's own. -/
def OneOwn (cs : ByteArray) (w : World) (e : Ending) (w' : World) : Prop := ∃ v, e = .returned v ∧ w'.ownsRow w.heap.size 52 1 v 1 [.iface 72 (.string cs)] ∧ Below w.heap.size w w'
set_option maxRecDepth 100000 in
set_option maxHeartbeats 1000000 in
theorem f17_own (cs : ByteArray) (g c : Nat) (w : World) (hg : w.cell? ⟨g, 0, none⟩ = some (.string cs)) : Calls Tryz.prog 17 #[.slice (some ⟨g, 0, none⟩) 1 c] w (OneOwn cs w) := by
  obtain ⟨i0, hi, hz0, hz1, hz2⟩ := info_parts infoVal
  go_enter Tryz.func17, Tryz.ntmps17
  go_wp2
  go_loopw [2, 7] (fun v i wr => (v = .slice none 0 0 ∧ i = .int .i64 0 ∧ wr = w) ∨ (i = .int .i64 1 ∧ Hid (wr.ownsRow w.heap.size 52 1 v 1 [.iface 72 (.string cs)] ∧ Below w.heap.size w wr))) (fun _ i _ => 1 - (RowKit.intOf i).toNat)
  case atStart => exact .inl ⟨rfl, rfl, rfl⟩
  case round =>
    rcases hrel with ⟨rfl, rfl, rfl⟩ | ⟨rfl, HO⟩
    · go_wp2_with (at_builtin; refine wpList_append_own _ rfl _ _ 57 rfl wr.heap.size 52 i0 .nilIface 1 16 Tryz.underlying57 hi hz0 hz1 hz2 rfl (by decide) _ 0 [] rfl ⟨rfl, .inl ⟨rfl, rfl⟩⟩ ⟨wr.heap.size, 0, none⟩ 1 1 [.iface 72 (.string cs)] rfl rfl (cell_one_new _ _ _) (by intro u hu; simp at hu; subst hu; rfl) (by decide) (by decide) (by simp) ?_; intro v' w1 ho hg1 _; have HO1 := Lib.hid ho; have HB1 : Hid (Below wr.heap.size wr w1) := ((Below.refl _ _).alloc (Nat.le_refl _) _).grown hg1 (by simp) (by intro k hk; cases hk); clear ho hg1)
      go_roundw
      case rel => exact .inr ⟨rfl, by simpa using HO1.out, HB1.out⟩
      case measure => simp [RowKit.intOf]
    · go_wp2
      go_ret
      exact ⟨_, rfl, HO.out.1, HO.out.2⟩
/-- The texts, and whether there are any; and that it was made. -/
def TripIs (o : Option (List (List UInt8))) (w : World) (e : Ending) (w' : World) : Prop := match o with
  | some l => ∃ v, e = .returned (.tuple #[v, .bool true, .bool true]) ∧ w'.ownsRow w.heap.size 9 1 v l.length (strs l) ∧ Below w.heap.size w w'
  | none => e = .returned (.tuple #[.slice none 0 0, .bool false, .bool true]) ∧ Below w.heap.size w w'
theorem rel_app0 {wr w0 w1 : World} {B e k : Nat} {v v' : Value} {xs ys : List Value} {n : Nat} (hown : wr.ownsRow B e 1 v k xs) (hb : Below B w0 wr) (hsz : B ≤ wr.heap.size)
    (hown' : w1.ownsRow B e 1 v' n ys) (hgrow : wr.grownBy w1 v.ownBlock) : w1.ownsRow B e 1 v' n ys ∧ Below B w0 w1 :=
  ⟨hown', hb.grown hgrow hsz fun k' hk => (hown.lt k' hk).1⟩
/-- 'append(own, row...)': the row any that the call made, empty or not. -/
theorem wpList_append_rowv {P : Program} {w : World} {ops : Array Oper} {rest : List Oper} {o : Oper} {a : Act} {Q : Exit → Act → World → Prop} (hgd : o.guard = none) (s x : Operand) (t : TypeId)
    (ho : o.op = .call { callee := .builtin .append, args := #[s, x], argTypes := #[t, t] })
    (base : Nat) (e : TypeId) (i : TypeInfo) (z : Value) (bytes : Nat) (ht : P.underlying t = some (.slice e)) (hi : P.info? e = some i) (hz : i.zero = some z)
    (hsize : i.size = 1) (hby : i.bytes = bytes) (hzs : z.cells.size = 1)
    (v : Value) (n : Nat) (xs : List Value) (hs : a.eval s = v) (hown : w.ownsRow base e 1 v n xs)
    (A : Option Addr) (m c : Nat) (news : List Value) (hx : a.eval x = .slice A m c) (B : Nat) (hrow : w.ownsRow B e 1 (.slice A m c) m news) (h1 : ∀ u ∈ news, u.oneCell' = true)
    (h63 : n + m ≤ maxLen) (hbytes : (n + m) * bytes ≤ 140737488355328) (hbase : base ≤ w.heap.size)
    (h : ∀ v' w', w'.ownsRow base e 1 v' (n + m) (xs ++ news) → w.grownBy w' v.ownBlock → wpList P ops Q rest (a.put o.dst v') w') : wpList P ops Q (o :: rest) a w := by
  have hlen : news.length = m := by simpa using hrow.1
  rcases hrow.2 with ⟨h0, hm⟩ | ⟨g, cap, cur, hv, hb, hg, hn, hcm, hcs, ht2⟩
  · subst hm
    injection h0 with hA _ hc
    subst hA hc
    obtain rfl : news = [] := List.length_eq_zero_iff.1 hlen
    exact wpList_append_own_none hgd s x t ho base e i 1 ht hi v n xs hs hown hx (by simpa using h v w (by simpa using hown) (World.grownBy.refl _ _))
  · injection hv with hA _ hc
    subst hA hc
    refine wpList_append_own w hgd s x t ho base e i z 1 bytes ht hi hz hsize hby hzs (by decide) v n xs hs hown ⟨g, 0, none⟩ m c news hx (by rw [hlen, Nat.mul_one]) ?_ h1 h63 hbytes hbase fun v' w' a b _ => h v' w' a b
    intro j u hu
    have hj : j < m := by rw [← hlen]; exact (List.getElem?_eq_some_iff.1 hu).1
    rw [Addr.add_lit, Nat.zero_add, World.ownsRow.cellAt hrow j (by omega)]
    exact hu
set_option maxRecDepth 100000 in
set_option maxHeartbeats 2000000 in
theorem f12_fore0_some (s : ByteArray) (mv : Value) (xs : List Value) (hxs : xs.length ≤ 1) (hx1 : ∀ u ∈ xs, u.oneCell' = true) (l : List (List UInt8)) (hl : l.length ≤ 1000000) (w : World) (hm : ∀ w1, Below w.heap.size w w1 → Calls Tryz.prog 22 #[mv] w1 (ScalIs xs w1)) (hd : ∀ w1 ar, Below w.heap.size w w1 → w1.ownsRow w.heap.size 52 1 ar (1 + xs.length) ([.iface 65 (.int .u8 0)] ++ xs) → SplitDoes ⟨#[115, 112, 108, 105, 116]⟩ s ar (some l) w1) :
    Calls Tryz.prog 12 #[.bool false, .string s, .slice none 0 0, mv] w (TripIs (some l) w) := by
  obtain ⟨i0, hi, hz0, hz1, hz2⟩ := info_parts infoVal
  have H22 := Lib.hid (hm w (Below.refl _ _))
  have HD := Lib.hid hd
  have HX1 := Lib.hid hx1
  clear hm hd hx1
  go_enter Tryz.func12, Tryz.ntmps12
  go_wp2_with fail
  go_at_call 22
  refine H22.out.mono ?_
  rintro e w1 ⟨bv, rfl, hob, hb1⟩
  have HOB := Lib.hid hob
  have HB1 := Lib.hid hb1
  clear hob hb1
  obtain ⟨bA, bc, rfl⟩ := own_len HOB.out
  go_wp2_with fail
  go_at_call 17
  refine (f17_none _).mono ?_
  rintro e w2 ⟨rfl, rfl⟩
  have K5 : Hid (w.heap.size ≤ (w1.alloc (.cells #[.iface 65 (.int .u8 0)] 52)).heap.size) := by show _ ≤ _; have := HB1.out.size; simp; omega
  go_wp2_with (at_builtin; refine wpList_append_own _ rfl (.tmp 33) (.tmp 35) 57 rfl w1.heap.size 52 i0 .nilIface 1 16 Tryz.underlying57 hi hz0 hz1 hz2 rfl (by decide) _ 0 [] rfl ⟨rfl, .inl ⟨rfl, rfl⟩⟩ ⟨w1.heap.size, 0, none⟩ 1 1 [.iface 65 (.int .u8 0)] rfl rfl (one_new _ _ _) (by intro u hu; simp at hu; subst hu; rfl) (by decide) (by decide) (by simp) ?_)
  intro v' w2 hown' hgrow _
  have HB12 : Hid (Below w1.heap.size w1 w2) := ((Below.refl _ _).alloc (Nat.le_refl _) _).grown hgrow (by simp) (by intro k hk; cases hk)
  have HO2 : Hid (w2.ownsRow w.heap.size 52 1 v' 1 [.iface 65 (.int .u8 0)]) := by
    show World.ownsRow _ _ _ _ _ _ _
    have := Joins.ownsRow_le hown' HB1.out.size
    simpa using this
  clear hown' hgrow
  have HOB2 := Lib.hid (own_below HOB.out HB12.out)
  have HB2 := Lib.hid (HB1.out.trans (HB12.out.mono HB1.out.size))
  have HSZ : Hid (w.heap.size ≤ w2.heap.size) := HB2.out.size
  obtain ⟨vA, vc, rfl⟩ := own_len HO2.out
  have K3 : Hid (1 + xs.length ≤ maxLen) := by show _ ≤ _; unfold maxLen; omega
  have K4 : Hid ((1 + xs.length) * 16 ≤ 140737488355328) := by show _ ≤ _; omega
  go_wp2_with (at_builtin; refine wpList_append_rowv rfl (.tmp 40) (.tmp 41) 57 rfl w.heap.size 52 i0 .nilIface 16 Tryz.underlying57 hi hz0 hz1 hz2 rfl _ 1 _ rfl HO2.out bA xs.length bc xs rfl w.heap.size HOB2.out HX1.out K3.out K4.out HSZ.out ?_)
  intro v3 w3 hown3 hgrow3
  have R := rel_app0 HO2.out HB2.out HB2.out.size hown3 hgrow3
  have H24 := Lib.hid (f24_of ⟨#[115, 112, 108, 105, 116]⟩ s v3 (some l) w3 (HD.out _ _ R.2 R.1))
  have HB3 := Lib.hid R.2
  clear hown3 hgrow3 R
  go_wp2_with fail
  go_at_call 24
  refine H24.out.mono ?_
  rintro e w4 ⟨L, lv, rfl, hlc, hlo, hb4⟩
  have HB4 := Lib.hid (HB3.out.trans (hb4.mono HB3.out.size))
  have H23 := Lib.hid (f23_list L l hl w4 ⟨lv, hlc, Joins.ownsRow_le hlo (Nat.zero_le _)⟩)
  clear hlc hlo hb4
  go_wp2_with fail
  go_at_call 23
  refine H23.out.mono ?_
  rintro e w5 ⟨v5, rfl, ho5, hb5⟩
  have HO5 := Lib.hid (Joins.ownsRow_le ho5 HB4.out.size)
  have HB5 := Lib.hid (HB4.out.trans (hb5.mono HB4.out.size))
  clear ho5 hb5
  go_wp2
  go_ret3
  exact ⟨v5, rfl, HO5.out, HB5.out⟩
set_option maxRecDepth 100000 in
set_option maxHeartbeats 2000000 in
theorem f12_fore1_some (s : ByteArray) (mv : Value) (xs : List Value) (hxs : xs.length ≤ 1) (hx1 : ∀ u ∈ xs, u.oneCell' = true) (l : List (List UInt8)) (hl : l.length ≤ 1000000) (w : World) (cs : ByteArray) (g c : Nat) (hg : w.cell? ⟨g, 0, none⟩ = some (.string cs)) (hm : ∀ w1, Below w.heap.size w w1 → Calls Tryz.prog 22 #[mv] w1 (ScalIs xs w1)) (hd : ∀ w1 ar, Below w.heap.size w w1 → w1.ownsRow w.heap.size 52 1 ar (1 + xs.length) ([.iface 72 (.string cs)] ++ xs) → SplitDoes ⟨#[115, 112, 108, 105, 116]⟩ s ar (some l) w1) :
    Calls Tryz.prog 12 #[.bool false, .string s, .slice (some ⟨g, 0, none⟩) 1 c, mv] w (TripIs (some l) w) := by
  obtain ⟨i0, hi, hz0, hz1, hz2⟩ := info_parts infoVal
  have H22 := Lib.hid (hm w (Below.refl _ _))
  have HD := Lib.hid hd
  have HX1 := Lib.hid hx1
  clear hm hd hx1
  have HG := Lib.hid hg
  clear hg
  go_enter Tryz.func12, Tryz.ntmps12
  go_wp2_with fail
  go_at_call 22
  refine H22.out.mono ?_
  rintro e w1 ⟨bv, rfl, hob, hb1⟩
  have HOB := Lib.hid hob
  have HB1 := Lib.hid hb1
  clear hob hb1
  obtain ⟨bA, bc, rfl⟩ := own_len HOB.out
  go_wp2_with fail
  go_at_call 17
  refine (f17_own cs g c _ (by exact cell_below HG.out HB1.out)).mono ?_
  rintro e w2 ⟨v', rfl, hown', hb12⟩
  have HB12 := Lib.hid hb12
  have HO2 : Hid (w2.ownsRow w.heap.size 52 1 v' 1 [.iface 72 (.string cs)]) := Joins.ownsRow_le hown' HB1.out.size
  clear hown' hb12
  have HOB2 := Lib.hid (own_below HOB.out HB12.out)
  have HB2 := Lib.hid (HB1.out.trans (HB12.out.mono HB1.out.size))
  have HSZ : Hid (w.heap.size ≤ w2.heap.size) := HB2.out.size
  obtain ⟨vA, vc, rfl⟩ := own_len HO2.out
  have K3 : Hid (1 + xs.length ≤ maxLen) := by show _ ≤ _; unfold maxLen; omega
  have K4 : Hid ((1 + xs.length) * 16 ≤ 140737488355328) := by show _ ≤ _; omega
  go_wp2_with (at_builtin; refine wpList_append_rowv rfl (.tmp 40) (.tmp 41) 57 rfl w.heap.size 52 i0 .nilIface 16 Tryz.underlying57 hi hz0 hz1 hz2 rfl _ 1 _ rfl HO2.out bA xs.length bc xs rfl w.heap.size HOB2.out HX1.out K3.out K4.out HSZ.out ?_)
  intro v3 w3 hown3 hgrow3
  have R := rel_app0 HO2.out HB2.out HB2.out.size hown3 hgrow3
  have H24 := Lib.hid (f24_of ⟨#[115, 112, 108, 105, 116]⟩ s v3 (some l) w3 (HD.out _ _ R.2 R.1))
  have HB3 := Lib.hid R.2
  clear hown3 hgrow3 R
  go_wp2_with fail
  go_at_call 24
  refine H24.out.mono ?_
  rintro e w4 ⟨L, lv, rfl, hlc, hlo, hb4⟩
  have HB4 := Lib.hid (HB3.out.trans (hb4.mono HB3.out.size))
  have H23 := Lib.hid (f23_list L l hl w4 ⟨lv, hlc, Joins.ownsRow_le hlo (Nat.zero_le _)⟩)
  clear hlc hlo hb4
  go_wp2_with fail
  go_at_call 23
  refine H23.out.mono ?_
  rintro e w5 ⟨v5, rfl, ho5, hb5⟩
  have HO5 := Lib.hid (Joins.ownsRow_le ho5 HB4.out.size)
  have HB5 := Lib.hid (HB4.out.trans (hb5.mono HB4.out.size))
  clear ho5 hb5
  go_wp2
  go_ret3
  exact ⟨v5, rfl, HO5.out, HB5.out⟩
set_option maxRecDepth 100000 in
set_option maxHeartbeats 2000000 in
theorem f12_fore1_none (s : ByteArray) (mv : Value) (xs : List Value) (hxs : xs.length ≤ 1) (hx1 : ∀ u ∈ xs, u.oneCell' = true) (w : World) (cs : ByteArray) (g c : Nat) (hg : w.cell? ⟨g, 0, none⟩ = some (.string cs)) (hm : ∀ w1, Below w.heap.size w w1 → Calls Tryz.prog 22 #[mv] w1 (ScalIs xs w1)) (hd : ∀ w1 ar, Below w.heap.size w w1 → w1.ownsRow w.heap.size 52 1 ar (1 + xs.length) ([.iface 72 (.string cs)] ++ xs) → SplitDoes ⟨#[115, 112, 108, 105, 116]⟩ s ar (none) w1) :
    Calls Tryz.prog 12 #[.bool false, .string s, .slice (some ⟨g, 0, none⟩) 1 c, mv] w (TripIs (none) w) := by
  obtain ⟨i0, hi, hz0, hz1, hz2⟩ := info_parts infoVal
  have H22 := Lib.hid (hm w (Below.refl _ _))
  have HD := Lib.hid hd
  have HX1 := Lib.hid hx1
  clear hm hd hx1
  have HG := Lib.hid hg
  clear hg
  go_enter Tryz.func12, Tryz.ntmps12
  go_wp2_with fail
  go_at_call 22
  refine H22.out.mono ?_
  rintro e w1 ⟨bv, rfl, hob, hb1⟩
  have HOB := Lib.hid hob
  have HB1 := Lib.hid hb1
  clear hob hb1
  obtain ⟨bA, bc, rfl⟩ := own_len HOB.out
  go_wp2_with fail
  go_at_call 17
  refine (f17_own cs g c _ (by exact cell_below HG.out HB1.out)).mono ?_
  rintro e w2 ⟨v', rfl, hown', hb12⟩
  have HB12 := Lib.hid hb12
  have HO2 : Hid (w2.ownsRow w.heap.size 52 1 v' 1 [.iface 72 (.string cs)]) := Joins.ownsRow_le hown' HB1.out.size
  clear hown' hb12
  have HOB2 := Lib.hid (own_below HOB.out HB12.out)
  have HB2 := Lib.hid (HB1.out.trans (HB12.out.mono HB1.out.size))
  have HSZ : Hid (w.heap.size ≤ w2.heap.size) := HB2.out.size
  obtain ⟨vA, vc, rfl⟩ := own_len HO2.out
  have K3 : Hid (1 + xs.length ≤ maxLen) := by show _ ≤ _; unfold maxLen; omega
  have K4 : Hid ((1 + xs.length) * 16 ≤ 140737488355328) := by show _ ≤ _; omega
  go_wp2_with (at_builtin; refine wpList_append_rowv rfl (.tmp 40) (.tmp 41) 57 rfl w.heap.size 52 i0 .nilIface 16 Tryz.underlying57 hi hz0 hz1 hz2 rfl _ 1 _ rfl HO2.out bA xs.length bc xs rfl w.heap.size HOB2.out HX1.out K3.out K4.out HSZ.out ?_)
  intro v3 w3 hown3 hgrow3
  have R := rel_app0 HO2.out HB2.out HB2.out.size hown3 hgrow3
  have H24 := Lib.hid (f24_of ⟨#[115, 112, 108, 105, 116]⟩ s v3 (none) w3 (HD.out _ _ R.2 R.1))
  have HB3 := Lib.hid R.2
  clear hown3 hgrow3 R
  go_wp2_with fail
  go_at_call 24
  refine H24.out.mono ?_
  rintro e w4 ⟨t, x, rfl, hb4⟩
  have HB4 := Lib.hid (HB3.out.trans (hb4.mono HB3.out.size))
  clear hb4
  go_wp2_with fail
  go_at_call 23
  refine (f23_no t x _).mono ?_
  rintro e w5 ⟨rfl, hb5⟩
  have HB5 := Lib.hid (HB4.out.trans (hb5.mono HB4.out.size))
  clear hb5
  go_wp2
  go_ret3
  exact ⟨rfl, HB5.out⟩
set_option maxRecDepth 100000 in
set_option maxHeartbeats 2000000 in
theorem f12_back0_some (s : ByteArray) (mv : Value) (xs : List Value) (hxs : xs.length ≤ 1) (hx1 : ∀ u ∈ xs, u.oneCell' = true) (l : List (List UInt8)) (hl : l.length ≤ 1000000) (w : World) (hm : ∀ w1, Below w.heap.size w w1 → Calls Tryz.prog 22 #[mv] w1 (ScalIs xs w1)) (hd : ∀ w1 ar, Below w.heap.size w w1 → w1.ownsRow w.heap.size 52 1 ar (1 + xs.length) ([.iface 65 (.int .u8 0)] ++ xs) → SplitDoes ⟨#[114, 115, 112, 108, 105, 116]⟩ s ar (some l) w1) :
    Calls Tryz.prog 12 #[.bool true, .string s, .slice none 0 0, mv] w (TripIs (some l) w) := by
  obtain ⟨i0, hi, hz0, hz1, hz2⟩ := info_parts infoVal
  have H22 := Lib.hid (hm w (Below.refl _ _))
  have HD := Lib.hid hd
  have HX1 := Lib.hid hx1
  clear hm hd hx1
  go_enter Tryz.func12, Tryz.ntmps12
  go_wp2_with fail
  go_at_call 22
  refine H22.out.mono ?_
  rintro e w1 ⟨bv, rfl, hob, hb1⟩
  have HOB := Lib.hid hob
  have HB1 := Lib.hid hb1
  clear hob hb1
  obtain ⟨bA, bc, rfl⟩ := own_len HOB.out
  go_wp2_with fail
  go_at_call 17
  refine (f17_none _).mono ?_
  rintro e w2 ⟨rfl, rfl⟩
  have K5 : Hid (w.heap.size ≤ (w1.alloc (.cells #[.iface 65 (.int .u8 0)] 52)).heap.size) := by show _ ≤ _; have := HB1.out.size; simp; omega
  go_wp2_with (at_builtin; refine wpList_append_own _ rfl (.tmp 33) (.tmp 35) 57 rfl w1.heap.size 52 i0 .nilIface 1 16 Tryz.underlying57 hi hz0 hz1 hz2 rfl (by decide) _ 0 [] rfl ⟨rfl, .inl ⟨rfl, rfl⟩⟩ ⟨w1.heap.size, 0, none⟩ 1 1 [.iface 65 (.int .u8 0)] rfl rfl (one_new _ _ _) (by intro u hu; simp at hu; subst hu; rfl) (by decide) (by decide) (by simp) ?_)
  intro v' w2 hown' hgrow _
  have HB12 : Hid (Below w1.heap.size w1 w2) := ((Below.refl _ _).alloc (Nat.le_refl _) _).grown hgrow (by simp) (by intro k hk; cases hk)
  have HO2 : Hid (w2.ownsRow w.heap.size 52 1 v' 1 [.iface 65 (.int .u8 0)]) := by
    show World.ownsRow _ _ _ _ _ _ _
    have := Joins.ownsRow_le hown' HB1.out.size
    simpa using this
  clear hown' hgrow
  have HOB2 := Lib.hid (own_below HOB.out HB12.out)
  have HB2 := Lib.hid (HB1.out.trans (HB12.out.mono HB1.out.size))
  have HSZ : Hid (w.heap.size ≤ w2.heap.size) := HB2.out.size
  obtain ⟨vA, vc, rfl⟩ := own_len HO2.out
  have K3 : Hid (1 + xs.length ≤ maxLen) := by show _ ≤ _; unfold maxLen; omega
  have K4 : Hid ((1 + xs.length) * 16 ≤ 140737488355328) := by show _ ≤ _; omega
  go_wp2_with (at_builtin; refine wpList_append_rowv rfl (.tmp 40) (.tmp 41) 57 rfl w.heap.size 52 i0 .nilIface 16 Tryz.underlying57 hi hz0 hz1 hz2 rfl _ 1 _ rfl HO2.out bA xs.length bc xs rfl w.heap.size HOB2.out HX1.out K3.out K4.out HSZ.out ?_)
  intro v3 w3 hown3 hgrow3
  have R := rel_app0 HO2.out HB2.out HB2.out.size hown3 hgrow3
  have H24 := Lib.hid (f24_of ⟨#[114, 115, 112, 108, 105, 116]⟩ s v3 (some l) w3 (HD.out _ _ R.2 R.1))
  have HB3 := Lib.hid R.2
  clear hown3 hgrow3 R
  go_wp2_with fail
  go_at_call 24
  refine H24.out.mono ?_
  rintro e w4 ⟨L, lv, rfl, hlc, hlo, hb4⟩
  have HB4 := Lib.hid (HB3.out.trans (hb4.mono HB3.out.size))
  have H23 := Lib.hid (f23_list L l hl w4 ⟨lv, hlc, Joins.ownsRow_le hlo (Nat.zero_le _)⟩)
  clear hlc hlo hb4
  go_wp2_with fail
  go_at_call 23
  refine H23.out.mono ?_
  rintro e w5 ⟨v5, rfl, ho5, hb5⟩
  have HO5 := Lib.hid (Joins.ownsRow_le ho5 HB4.out.size)
  have HB5 := Lib.hid (HB4.out.trans (hb5.mono HB4.out.size))
  clear ho5 hb5
  go_wp2
  go_ret3
  exact ⟨v5, rfl, HO5.out, HB5.out⟩
set_option maxRecDepth 100000 in
set_option maxHeartbeats 2000000 in
theorem f12_back1_some (s : ByteArray) (mv : Value) (xs : List Value) (hxs : xs.length ≤ 1) (hx1 : ∀ u ∈ xs, u.oneCell' = true) (l : List (List UInt8)) (hl : l.length ≤ 1000000) (w : World) (cs : ByteArray) (g c : Nat) (hg : w.cell? ⟨g, 0, none⟩ = some (.string cs)) (hm : ∀ w1, Below w.heap.size w w1 → Calls Tryz.prog 22 #[mv] w1 (ScalIs xs w1)) (hd : ∀ w1 ar, Below w.heap.size w w1 → w1.ownsRow w.heap.size 52 1 ar (1 + xs.length) ([.iface 72 (.string cs)] ++ xs) → SplitDoes ⟨#[114, 115, 112, 108, 105, 116]⟩ s ar (some l) w1) :
    Calls Tryz.prog 12 #[.bool true, .string s, .slice (some ⟨g, 0, none⟩) 1 c, mv] w (TripIs (some l) w) := by
  obtain ⟨i0, hi, hz0, hz1, hz2⟩ := info_parts infoVal
  have H22 := Lib.hid (hm w (Below.refl _ _))
  have HD := Lib.hid hd
  have HX1 := Lib.hid hx1
  clear hm hd hx1
  have HG := Lib.hid hg
  clear hg
  go_enter Tryz.func12, Tryz.ntmps12
  go_wp2_with fail
  go_at_call 22
  refine H22.out.mono ?_
  rintro e w1 ⟨bv, rfl, hob, hb1⟩
  have HOB := Lib.hid hob
  have HB1 := Lib.hid hb1
  clear hob hb1
  obtain ⟨bA, bc, rfl⟩ := own_len HOB.out
  go_wp2_with fail
  go_at_call 17
  refine (f17_own cs g c _ (by exact cell_below HG.out HB1.out)).mono ?_
  rintro e w2 ⟨v', rfl, hown', hb12⟩
  have HB12 := Lib.hid hb12
  have HO2 : Hid (w2.ownsRow w.heap.size 52 1 v' 1 [.iface 72 (.string cs)]) := Joins.ownsRow_le hown' HB1.out.size
  clear hown' hb12
  have HOB2 := Lib.hid (own_below HOB.out HB12.out)
  have HB2 := Lib.hid (HB1.out.trans (HB12.out.mono HB1.out.size))
  have HSZ : Hid (w.heap.size ≤ w2.heap.size) := HB2.out.size
  obtain ⟨vA, vc, rfl⟩ := own_len HO2.out
  have K3 : Hid (1 + xs.length ≤ maxLen) := by show _ ≤ _; unfold maxLen; omega
  have K4 : Hid ((1 + xs.length) * 16 ≤ 140737488355328) := by show _ ≤ _; omega
  go_wp2_with (at_builtin; refine wpList_append_rowv rfl (.tmp 40) (.tmp 41) 57 rfl w.heap.size 52 i0 .nilIface 16 Tryz.underlying57 hi hz0 hz1 hz2 rfl _ 1 _ rfl HO2.out bA xs.length bc xs rfl w.heap.size HOB2.out HX1.out K3.out K4.out HSZ.out ?_)
  intro v3 w3 hown3 hgrow3
  have R := rel_app0 HO2.out HB2.out HB2.out.size hown3 hgrow3
  have H24 := Lib.hid (f24_of ⟨#[114, 115, 112, 108, 105, 116]⟩ s v3 (some l) w3 (HD.out _ _ R.2 R.1))
  have HB3 := Lib.hid R.2
  clear hown3 hgrow3 R
  go_wp2_with fail
  go_at_call 24
  refine H24.out.mono ?_
  rintro e w4 ⟨L, lv, rfl, hlc, hlo, hb4⟩
  have HB4 := Lib.hid (HB3.out.trans (hb4.mono HB3.out.size))
  have H23 := Lib.hid (f23_list L l hl w4 ⟨lv, hlc, Joins.ownsRow_le hlo (Nat.zero_le _)⟩)
  clear hlc hlo hb4
  go_wp2_with fail
  go_at_call 23
  refine H23.out.mono ?_
  rintro e w5 ⟨v5, rfl, ho5, hb5⟩
  have HO5 := Lib.hid (Joins.ownsRow_le ho5 HB4.out.size)
  have HB5 := Lib.hid (HB4.out.trans (hb5.mono HB4.out.size))
  clear ho5 hb5
  go_wp2
  go_ret3
  exact ⟨v5, rfl, HO5.out, HB5.out⟩
set_option maxRecDepth 100000 in
set_option maxHeartbeats 2000000 in
theorem f12_back1_none (s : ByteArray) (mv : Value) (xs : List Value) (hxs : xs.length ≤ 1) (hx1 : ∀ u ∈ xs, u.oneCell' = true) (w : World) (cs : ByteArray) (g c : Nat) (hg : w.cell? ⟨g, 0, none⟩ = some (.string cs)) (hm : ∀ w1, Below w.heap.size w w1 → Calls Tryz.prog 22 #[mv] w1 (ScalIs xs w1)) (hd : ∀ w1 ar, Below w.heap.size w w1 → w1.ownsRow w.heap.size 52 1 ar (1 + xs.length) ([.iface 72 (.string cs)] ++ xs) → SplitDoes ⟨#[114, 115, 112, 108, 105, 116]⟩ s ar (none) w1) :
    Calls Tryz.prog 12 #[.bool true, .string s, .slice (some ⟨g, 0, none⟩) 1 c, mv] w (TripIs (none) w) := by
  obtain ⟨i0, hi, hz0, hz1, hz2⟩ := info_parts infoVal
  have H22 := Lib.hid (hm w (Below.refl _ _))
  have HD := Lib.hid hd
  have HX1 := Lib.hid hx1
  clear hm hd hx1
  have HG := Lib.hid hg
  clear hg
  go_enter Tryz.func12, Tryz.ntmps12
  go_wp2_with fail
  go_at_call 22
  refine H22.out.mono ?_
  rintro e w1 ⟨bv, rfl, hob, hb1⟩
  have HOB := Lib.hid hob
  have HB1 := Lib.hid hb1
  clear hob hb1
  obtain ⟨bA, bc, rfl⟩ := own_len HOB.out
  go_wp2_with fail
  go_at_call 17
  refine (f17_own cs g c _ (by exact cell_below HG.out HB1.out)).mono ?_
  rintro e w2 ⟨v', rfl, hown', hb12⟩
  have HB12 := Lib.hid hb12
  have HO2 : Hid (w2.ownsRow w.heap.size 52 1 v' 1 [.iface 72 (.string cs)]) := Joins.ownsRow_le hown' HB1.out.size
  clear hown' hb12
  have HOB2 := Lib.hid (own_below HOB.out HB12.out)
  have HB2 := Lib.hid (HB1.out.trans (HB12.out.mono HB1.out.size))
  have HSZ : Hid (w.heap.size ≤ w2.heap.size) := HB2.out.size
  obtain ⟨vA, vc, rfl⟩ := own_len HO2.out
  have K3 : Hid (1 + xs.length ≤ maxLen) := by show _ ≤ _; unfold maxLen; omega
  have K4 : Hid ((1 + xs.length) * 16 ≤ 140737488355328) := by show _ ≤ _; omega
  go_wp2_with (at_builtin; refine wpList_append_rowv rfl (.tmp 40) (.tmp 41) 57 rfl w.heap.size 52 i0 .nilIface 16 Tryz.underlying57 hi hz0 hz1 hz2 rfl _ 1 _ rfl HO2.out bA xs.length bc xs rfl w.heap.size HOB2.out HX1.out K3.out K4.out HSZ.out ?_)
  intro v3 w3 hown3 hgrow3
  have R := rel_app0 HO2.out HB2.out HB2.out.size hown3 hgrow3
  have H24 := Lib.hid (f24_of ⟨#[114, 115, 112, 108, 105, 116]⟩ s v3 (none) w3 (HD.out _ _ R.2 R.1))
  have HB3 := Lib.hid R.2
  clear hown3 hgrow3 R
  go_wp2_with fail
  go_at_call 24
  refine H24.out.mono ?_
  rintro e w4 ⟨t, x, rfl, hb4⟩
  have HB4 := Lib.hid (HB3.out.trans (hb4.mono HB3.out.size))
  clear hb4
  go_wp2_with fail
  go_at_call 23
  refine (f23_no t x _).mono ?_
  rintro e w5 ⟨rfl, hb5⟩
  have HB5 := Lib.hid (HB4.out.trans (hb5.mono HB4.out.size))
  clear hb5
  go_wp2
  go_ret3
  exact ⟨rfl, HB5.out⟩
end Go.Proofs.YtgcofpmhojplhaaGreatDoor
