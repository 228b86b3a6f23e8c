/- The walks of the reference's Not and plain. -/
import Derived.Test.YtidkdjnfpepnfaaSp10
import Derived.Test.YtidkdjnfpepnfaaOuWalk
import Derived.Test.YtidkdjnfpepnfaaAndB
import Derived.Laws.BitsAllLaws
namespace Go.Proofs.Ytidkdjnfpepnfaa
open Go.RowKit

/-- 'copy(own[o:..], src)': the bytes go over. -/
theorem wp_copy_rowB {w : World} {o : Oper} {a : Act} {K : Act → World → Prop} {Q : Exit → Act → World → Prop} (d s : Operand) (dT sT : TypeId)
    (ho : o.op = .call { callee := .builtin .copy, args := #[d, s], argTypes := #[dT, sT] }) (hu : Try.prog.underlying dT = some (.slice 5))
    (dp : Option Addr) (dLen dCap : Nat) (hd : a.eval d = .slice dp dLen dCap) (vs : Value) (hs : a.eval s = vs) (B g n c : Nat) (xs : List Nat) (hown : OwnB B w g n c xs) (B' : Nat) (ys : List Nat) (hrow : Row B' .u8 w vs ys)
    (q : Nat) (hdp : 0 < ys.length → dp = some ⟨g, q, none⟩) (hlen : ys.length = dLen) (hfit : q + ys.length ≤ n)
    (h : ∀ w', OwnB B w' g n c (xs.take q ++ (ys ++ xs.drop (q + ys.length))) → w.grownBy w' (some g) → K (a.put o.dst (goInt ys.length)) w') : o.wp Try.prog a w K Q := by
  obtain ⟨i0, hi, hz0, hz1, hz2⟩ := info_parts info5
  have hsz : (Try.prog.info? 5).map (·.size) = some 1 := by rw [hi]; simp [hz1]
  rcases hrow with ⟨rfl, hv⟩ | ⟨h0, g', off, c', rfl, hc, _, hg, hcell⟩
  · have hn0 : ∃ sp sl sc, vs = .slice sp sl sc ∧ Nat.min sl dLen = 0 := by
      rcases hv with rfl | ⟨x, c, rfl⟩
      · exact ⟨none, 0, 0, rfl, by simp⟩
      · exact ⟨some x, 0, c, rfl, by simp⟩
    obtain ⟨sp, sl, sc, rfl, hmin⟩ := hn0
    have hrun := run_copy_none (P := Try.prog) w dT sT o.type 5 dp sp dLen dCap sl sc hu hsz hmin
    unfold Oper.wp
    simp [execOp, ho, resolve, invoke, builtin, hd, hs, hrun, Result.andThen]
    exact h w (by simpa using hown) (World.grownBy.refl _ _)
  · obtain rfl := hdp h0
    subst hlen
    rcases hown.2 with ⟨h', _⟩ | ⟨g2, c2, cur, h', hB, hgg, hnc, hcm, hcs, ht⟩
    · cases h'
    · cases h'
      have hxs := hown.1
      have hrun := run_copy_row (P := Try.prog) w dT sT o.type 5 g q ys.length dCap ⟨g', off, none⟩ ys.length c' cur 5 (ys.map fun x => Value.int .u8 (x : Nat)) hu hsz hgg (by simp)
        (by
          intro j u hu
          have hj : j < ys.length := by have := List.getElem?_eq_some_iff.1 hu; simpa using this.1
          have := hcell j hj
          rw [show (⟨g', off, none⟩ : Addr).add j = ⟨g', off + j, none⟩ from by unfold Addr.add; split <;> simp_all, this]
          simp [hj] at hu ⊢
          exact hu) (by simp; omega) (by intro u hu; obtain ⟨y, _, rfl⟩ := List.mem_map.1 hu; rfl)
      unfold Oper.wp
      simp [execOp, ho, resolve, invoke, builtin, hd, hs, hrun, Result.andThen]
      refine h _ ?_ ?_
      · refine ⟨?_, .inr ⟨g, c, _, rfl, hB, setRow_heap w g _ _ 5 _ hgg, hnc, hcm, ?_, ?_⟩⟩
        · have := hown.len; simp; omega
        · have : cur.toList.length = c := by simpa using hcs
          simp; omega
        · have hcl : cur.toList.length = c := by simpa using hcs
          exact splice_take cur.toList (xs.map fun x => Value.int .u8 (x : Nat)) (ys.map fun x => Value.int .u8 (x : Nat)) n q ys.length (by simp) (by omega) (by omega) (by simpa using ht) _ (by simp)
      · exact ⟨rfl, rfl, rfl, by simp [World.setRow], fun k _ hk => setRow_other w g k _ (fun e => hk (by rw [e]))⟩

theorem wpList_copy_rowB {w : World} {ops : Array Oper} {rest : List Oper} {o : Oper} {a : Act} {Q : Exit → Act → World → Prop} (hgd : o.guard = none) (d s : Operand) (dT sT : TypeId)
    (ho : o.op = .call { callee := .builtin .copy, args := #[d, s], argTypes := #[dT, sT] }) (hu : Try.prog.underlying dT = some (.slice 5))
    (dp : Option Addr) (dLen dCap : Nat) (hd : a.eval d = .slice dp dLen dCap) (vs : Value) (hs : a.eval s = vs) (B g n c : Nat) (xs : List Nat) (hown : OwnB B w g n c xs) (B' : Nat) (ys : List Nat) (hrow : Row B' .u8 w vs ys)
    (q : Nat) (hdp : 0 < ys.length → dp = some ⟨g, q, none⟩) (hlen : ys.length = dLen) (hfit : q + ys.length ≤ n)
    (h : ∀ w', OwnB B w' g n c (xs.take q ++ (ys ++ xs.drop (q + ys.length))) → w.grownBy w' (some g) → wpList Try.prog ops Q rest (a.put o.dst (goInt ys.length)) w') : wpList Try.prog ops Q (o :: rest) a w :=
  wpList_plain hgd fun _ hK => wp_copy_rowB d s dT sT ho hu dp dLen dCap hd vs hs B g n c xs hown B' ys hrow q hdp hlen hfit fun w' h1 h2 => hK _ _ (h w' h1 h2)

theorem f10_one (w : World) : Calls Try.prog 10 #[.int .i64 1] w (MakesS 8 1 w) := f10_any 1 (by omega) w

set_option maxRecDepth 100000 in
set_option maxHeartbeats 1000000 in
theorem f55_any (k : Nat) (hk : k ≤ 90000) (hk8 : 8 ≤ k) (v : Value) (z : Int) (B : Nat) (w : World) (hx : SInt B k w v z) : Calls Try.prog 55 #[v] w (MakesS (k + 1) (-z - 1) w) := by
  obtain ⟨d1, a1, k1, c1, rfl⟩ := hx.shape
  have hA : Below w.heap.size w ((w.alloc (.cells #[.bool d1, .slice a1 k1 c1] 30)).alloc (.cells #[.bool false, .slice none 0 0] 30)) := ((Below.refl _ _).alloc (Nat.le_refl _) _).alloc (by simp) _
  have HA := Lib.hid hA
  have HX := Lib.hid (hx.below hA (Nat.le_refl _))
  have HK := Lib.hid (show k ≤ 90000 ∧ 8 ≤ k from ⟨hk, hk8⟩)
  clear hx hA hk hk8
  go_enter Try.func55, Try.ntmps55
  go_wp2_with fail
  refine (f34_any k (by have := HK.out; omega) _ z _ _ HX.out).mono ?_
  rintro e w1 ⟨v1, rfl, hs1, hb1⟩
  have HS1 := Lib.hid hs1
  have HB1 : Hid (Below (w.heap.size + 2) _ w1) := hb1.mono (by simp)
  have L1 : w.heap.size + 2 ≤ w1.heap.size := by have := hb1.size; simpa using this
  clear hs1 hb1 HX
  go_wp2_with fail
  refine (f10_one _).mono ?_
  rintro e w2 ⟨v2, rfl, hs2, hb2⟩
  have HS2 := Lib.hid (hs2.le (Nat.zero_le _) HK.out.2)
  have HS12 := Lib.hid ((HS1.out.below hb2 (Nat.le_refl _)).le (Nat.zero_le _) (Nat.le_refl _))
  have HB2 := Lib.hid (HB1.out.trans (hb2.mono L1))
  have L2 : w.heap.size + 2 ≤ w2.heap.size := Nat.le_trans L1 hb2.size
  clear hs2 hb2 HS1
  go_wp2_with fail
  refine (f17_any k (by have := HK.out; omega) _ _ (-z) 1 0 w2 HS12.out HS2.out).mono ?_
  rintro e w3 ⟨v3, rfl, hs3, hb3⟩
  obtain ⟨d3, a3, k3, c3, rfl⟩ := hs3.shape
  have HS3 := Lib.hid (hs3.le L2 (Nat.le_refl _))
  have HB3 := Lib.hid (HB2.out.trans (hb3.mono L2))
  obtain ⟨x0, y0, x1, y1⟩ := later2 HB3.out (Nat.le_refl _)
  have HE := Lib.hid (fun u1 u2 => one_end HA.out HB3.out HS3.out (Nat.le_refl _) (Nat.le_refl _) u1 u2)
  clear hs3 hb3 HS12 HS2
  go_wp2_with fail
  refine bodyPost_ret (v := .agg #[.bool d3, .slice a3 k3 c3]) (by simp [results, Try.results55, go_sem, x1]) rfl ?_
  exact ⟨_, rfl, (HE.out _ _).1, (HE.out _ _).2⟩

/-- What plain leaves. -/
def MakesPlain (n : Nat) (xs : List Nat) (w : World) (e : Ending) (w' : World) : Prop := ∃ g, e = .returned (.slice (some ⟨g, 0, none⟩) n n) ∧ OwnB w.heap.size w' g n n xs ∧ Below w.heap.size w w'

theorem size5 : (Try.prog.info? 5).map (·.size) = some 1 := by kernel_rfl
theorem OwnB.le {B B' : Nat} {w : World} {g n c : Nat} {xs : List Nat} (h : OwnB B w g n c xs) (hB : B' ≤ B) : OwnB B' w g n c xs := by
  refine ⟨h.1, ?_⟩
  rcases h.2 with ⟨h1, _⟩ | ⟨g', c', cur, h1, h2, h3⟩
  · cases h1
  · exact .inr ⟨g', c', cur, h1, Nat.le_trans hB h2, h3⟩
theorem pad_copy (p : Nat) (l : List Nat) : (List.replicate (p + l.length) 0).take p ++ (l ++ (List.replicate (p + l.length) 0).drop (p + l.length)) = List.replicate p 0 ++ l := by
  rw [List.drop_of_length_le (by simp), List.take_replicate, Nat.min_eq_left (by omega), List.append_nil]

set_option maxRecDepth 100000 in
set_option maxHeartbeats 2000000 in
theorem f36_pos (p : Nat) (hp : 0 < p) (B : Nat) (w : World) (a1 : Option Addr) (c1 : Nat) (l : List Nat) (hn : p + l.length ≤ 100000) (r1 : Row B .u8 w (.slice a1 l.length c1) l) :
    Calls Try.prog 36 #[.agg #[.bool false, .slice a1 l.length c1], .int .i64 (p + l.length : Nat)] w (MakesPlain (p + l.length) (List.replicate p 0 ++ l) w) := by
  obtain ⟨i0, hi, hz0, hz1, hz2⟩ := info_parts info5
  have hmk := fun w : World => run_make (P := Try.prog) w 24 5 i0 (.int .u8 0) Try.underlying24 hi hz0 .i64 .i64 ((p + l.length : Nat) : Int) ((p + l.length : Nat) : Int) (by omega) (by omega) (by rw [hz2]; omega) (by omega)
  simp only [hz1, Int.toNat_natCast, Nat.mul_one] at hmk
  have HO := Lib.hid (ownB_made (w.alloc (.cells #[.bool false, .slice a1 l.length c1] 30)) (p + l.length) (p + l.length) (Nat.le_refl _) (by simp [maxLen]; omega))
  have HR := Lib.hid ((r1.alloc (.cells #[.bool false, .slice a1 l.length c1] 30)).alloc (.cells (madeCells #[.int .u8 0] (p + l.length)) 5))
  have HB : Hid (Below w.heap.size w ((w.alloc (.cells #[.bool false, .slice a1 l.length c1] 30)).alloc (.cells (madeCells #[.int .u8 0] (p + l.length)) 5))) := ((Below.refl _ _).alloc (Nat.le_refl _) _).alloc (by simp) _
  have HP := Lib.hid (pad_copy p l)
  clear r1
  obtain ⟨n, hN⟩ : ∃ n, n = p + l.length := ⟨_, rfl⟩
  rw [← hN] at hmk HO HR HB HP hn ⊢
  have hpn : (p < n ∧ ¬ n = p) ∨ (n = p ∧ l = []) := by
    by_cases h : l.length = 0
    · exact .inr ⟨by omega, List.eq_nil_of_length_eq_zero h⟩
    · exact .inl (by omega)
  have eS : (n : Int) - (l.length : Int) = (p : Int) := by omega
  have eN : n - p = l.length := by omega
  have HN := Lib.hid hN
  have hbox : ∀ w2 : World, ((w.alloc (.cells #[.bool false, .slice a1 l.length c1] 30)).alloc (.cells (madeCells #[.int .u8 0] n) 5)).grownBy w2 (some (w.heap.size + 1)) → w2.cell? ⟨w.heap.size, 0, none⟩ = some (.bool false) := fun w2 hg => by
    rw [hg.cell_far ⟨w.heap.size, 0, none⟩ (by simp; omega) (by simp)]
    simp [go_sem]
  have HX := Lib.hid hbox
  clear hN hbox
  have HO1 : Hid (OwnB (w.heap.size + 1) ((w.alloc (.cells #[.bool false, .slice a1 l.length c1] 30)).alloc (.cells (madeCells #[.int .u8 0] n) 5)) (w.heap.size + 1) n n (List.replicate n 0)) := by have := HO.out; show OwnB _ _ _ _ _ _; simpa using this
  clear HO
  generalize List.replicate n 0 = Z at *
  rcases hpn with ⟨hlt, hne⟩ | ⟨rfl, rfl⟩
  · go_enter Try.func36, Try.ntmps36
    go_wp2_with (refine wpList_copy_rowB rfl (.tmp 22) (.tmp 23) 24 24 rfl Try.underlying24 (some ⟨w.heap.size + 1, p, none⟩) l.length l.length rfl _ rfl (w.heap.size + 1) (w.heap.size + 1) n n Z HO1.out B l HR.out p (fun _ => rfl) rfl (by have := HN.out; omega) ?_)
    intro w2 ho2 hg2
    rw [← HN.out, HP.out] at ho2
    have HO2 := Lib.hid ho2
    have x0 := HX.out w2 hg2
    have HB2 : Hid (Below w.heap.size w w2) := HB.out.grown hg2 (by simp; omega) (by intro q hq; cases hq; omega)
    clear ho2 hg2 HX HO1 HB HR
    go_wp2_with fail
    go_loop [7] (fun vi => vi = .int .i64 0) (fun _ => 0)
    case atStart => rfl
    case round =>
      obtain rfl := hrel
      go_wp2
      go_ret
      exact ⟨_, rfl, HO2.out.le (by omega), HB2.out⟩
  · have x0 := HX.out _ (World.grownBy.refl _ _)
    have HP0 : Hid (Z = List.replicate n 0) := by have := HP.out; have hl := HO1.out.len; show _ = _; rw [List.take_of_length_le (by omega), List.drop_of_length_le (by omega)] at this; simpa using this
    have hn0 : 0 < n := hp
    go_enter Try.func36, Try.ntmps36
    go_wp2_with (refine wpList_copy_nothing rfl (.tmp 22) (.tmp 23) 24 24 rfl 5 Try.underlying24 size5 _ _ _ _ _ _ rfl rfl (by simp) ?_)
    go_loop [7] (fun vi => vi = .int .i64 0) (fun _ => 0)
    case atStart => rfl
    case round =>
      obtain rfl := hrel
      go_wp2
      go_ret
      exact ⟨_, rfl, by have := HO1.out.le (B' := w.heap.size) (by omega); rw [HP0.out] at this; simpa using this, HB.out⟩
theorem OwnB.below {B : Nat} {w w' : World} {g n c : Nat} {xs : List Nat} {B' : Nat} (h : OwnB B w g n c xs) (hb : Below B' w w') (hB : w.heap.size ≤ B') : OwnB B w' g n c xs :=
  World.ownsRow.kept (row := none) h ⟨hb.os, hb.tape, hb.output, hb.size, fun k hk _ => hb.block k (by omega)⟩ (.inr (by simp [Value.ownBlock]))
theorem run_field30 (d : Bool) (a : Option Addr) (n c : Nat) (w : World) : (Instr.field 30 (.agg #[.bool d, .slice a n c]) 1).run Try.prog w = .ok (.slice a n c) w := by
  simp [Instr.field, run_underlying Try.underlying30, part, asAgg, go_sem]
theorem xor_u8 (y : Nat) (h : y < 256) : bits BinOp.xor IntKind.u8 (if IntKind.u8.signed = true then -1 else IntKind.u8.max) (y : Int) = ((255 - y : Nat) : Int) := by
  have e : (if IntKind.u8.signed = true then -1 else IntKind.u8.max) = ((255 : Nat) : Int) := by decide
  have h2 : ∀ z : Fin 256, 255 ^^^ z.val = 255 - z.val := by decide +kernel
  rw [e, u8_xor_nat 255 y (by decide) h]
  exact congrArg (fun n : Nat => (n : Int)) (h2 ⟨y, h⟩)
theorem cpZ_get (l Z : List Nat) (i : Nat) (h : i < l.length) : (cpZ l Z i).getD i 0 = Z.getD i 0 := by
  unfold cpZ
  rw [List.getD_eq_getElem?_getD, List.getElem?_append_right (by simp; omega), List.getElem?_drop, List.getD_eq_getElem?_getD]
  simp
  congr 2
  omega

set_option maxRecDepth 100000 in
set_option maxHeartbeats 4000000 in
theorem f36_neg (k n : Nat) (hk : k ≤ 90000) (hk8 : 8 ≤ k) (hn : n ≤ 100000) (z : Int) (hz : z < 0) (B : Nat) (w : World) (v : Value) (hx : SInt B k w v z) (hpos : z.natAbs < 256 ^ (n - 1)) (hn1 : 1 ≤ n) :
    Calls Try.prog 36 #[v, .int .i64 n] w fun e w' => ∃ l, IsB (z.natAbs - 1) l ∧ l.length + 1 ≤ n ∧ MakesPlain n (plainL true n l) w e w' := by
  obtain ⟨i0, hi, hz0, hz1, hz2⟩ := info_parts info5
  obtain ⟨s1, l1, rfl, r1, b1, hl1⟩ := hx
  obtain ⟨a1, c1, rfl⟩ := r1.len
  rw [show decide (z < 0) = true from by simpa using hz]
  have hmk := fun w : World => run_make (P := Try.prog) w 24 5 i0 (.int .u8 0) Try.underlying24 hi hz0 .i64 .i64 (n : Int) (n : Int) (by omega) (by omega) (by rw [hz2]; omega) (by omega)
  simp only [hz1, Int.toNat_natCast, Nat.mul_one] at hmk
  have HO := Lib.hid (ownB_made (w.alloc (.cells #[.bool true, .slice a1 l1.length c1] 30)) n n (Nat.le_refl _) (by simp [maxLen]; omega))
  have HX : Hid (SInt B k ((w.alloc (.cells #[.bool true, .slice a1 l1.length c1] 30)).alloc (.cells (madeCells #[.int .u8 0] n) 5)) (.agg #[.bool true, .slice a1 l1.length c1]) z) := ⟨_, l1, by simp [hz], (r1.alloc _).alloc _, b1, hl1⟩
  have HB : Hid (Below w.heap.size w ((w.alloc (.cells #[.bool true, .slice a1 l1.length c1] 30)).alloc (.cells (madeCells #[.int .u8 0] n) 5))) := ((Below.refl _ _).alloc (Nat.le_refl _) _).alloc (by simp) _
  have HA : Hid (Below (w.heap.size + 1) (w.alloc (.cells #[.bool true, .slice a1 l1.length c1] 30)) ((w.alloc (.cells #[.bool true, .slice a1 l1.length c1] 30)).alloc (.cells (madeCells #[.int .u8 0] n) 5))) := (Below.refl _ _).alloc (by simp) _
  have HK := Lib.hid (show k ≤ 90000 ∧ 8 ≤ k from ⟨hk, hk8⟩)
  have HZ := Lib.hid (show z < 0 ∧ z.natAbs < 256 ^ (n - 1) from ⟨hz, hpos⟩)
  clear r1 b1 hl1 hk hk8 hz hpos
  go_enter Try.func36, Try.ntmps36
  go_wp2_with fail
  refine (f55_any k HK.out.1 HK.out.2 _ z _ _ HX.out).mono ?_
  rintro e w2 ⟨v2, rfl, ⟨sl, l, rfl, hr2, hb2, _⟩, hbel⟩
  obtain ⟨a2, c2, rfl⟩ := hr2.len
  have HI : Hid (IsB (z.natAbs - 1) l) := by
    have e : (-z - 1).natAbs = z.natAbs - 1 := by have := HZ.out.1; omega
    show IsB _ _
    rw [← e]; exact hb2
  have hln : l.length + 1 ≤ n := by
    have := HI.out.len_le (k := n - 1) (by have := HZ.out.2; omega)
    omega
  have HR := Lib.hid hr2
  have HO1 : Hid (OwnB (w.heap.size + 1) w2 (w.heap.size + 1) n n (List.replicate n 0)) := by
    have := HO.out.below hbel (Nat.le_refl _)
    show OwnB _ _ _ _ _ _
    simpa using this
  have HB2 : Hid (Below (w.heap.size + 1) (w.alloc (.cells #[.bool true, .slice a1 l1.length c1] 30)) w2) := HA.out.trans (hbel.mono (by simp))
  obtain ⟨x0, y0⟩ := later HB2.out (Nat.le_refl _)
  obtain ⟨p, hp⟩ : ∃ p, p = n - l.length := ⟨_, rfl⟩
  have hp0 : 0 < p := by omega
  have HP : Hid ((List.replicate n 0).take p ++ (l ++ (List.replicate n 0).drop (p + l.length)) = List.replicate (n - l.length) 0 ++ l) := by
    have := pad_copy p l
    rw [show p + l.length = n from by omega] at this ⊢
    rw [← hp]; exact this
  have HN : Hid (p + l.length = n) := by show _ = _; omega
  have eS : (n : Int) - (l.length : Int) = (p : Int) := by omega
  have eN : n - p = l.length := by omega
  have hpn : (p < n ∧ ¬ n = p) ∨ (n = p ∧ l.length = 0) := by omega
  clear hr2 hb2 hbel hp HO HX
  generalize List.replicate n 0 = Z at *
  generalize decide (-z - 1 < 0) = dd at *
  have hfl := fun w => run_field30 dd a2 l.length c2 w
  have HV : Hid (plainL true n l = (List.replicate (n - l.length) 0 ++ l).map fun d => 255 - d) := rfl
  have HPL : Hid ((List.replicate (n - l.length) 0 ++ l).length = n) := by show _ = _; simp; omega
  have HD8 : Hid (∀ d ∈ List.replicate (n - l.length) 0 ++ l, d < 256) := pad_low n l HI.out.low
  have HBB : Hid (Below w.heap.size w w2) := ((Below.refl _ _).alloc (Nat.le_refl _) _).trans (HB2.out.mono (by omega))
  have hz2' : w.heap.size + 1 < w2.heap.size := HO1.out.low.2
  have HCop : Hid (∀ w3 : World, OwnB (w.heap.size + 1) w3 (w.heap.size + 1) n n (Z.take p ++ (l ++ Z.drop (p + l.length))) → w2.grownBy w3 (some (w.heap.size + 1)) → OwnB (w.heap.size + 1) w3 (w.heap.size + 1) n n (List.replicate (n - l.length) 0 ++ l) ∧ (w3.cell? ⟨w.heap.size, 0, none⟩ = some (.bool true) ∧ ∀ w4 : World, w3.grownBy w4 (some (w.heap.size + 1)) → w4.cell? ⟨w.heap.size, 0, none⟩ = some (.bool true) ∧ Below w.heap.size w w4)) := fun w3 ho hg => by
    rw [HP.out] at ho
    have h0 : w3.cell? ⟨w.heap.size, 0, none⟩ = some (.bool true) := (hg.cell_far ⟨w.heap.size, 0, none⟩ (by simp; omega) (by simp)).trans (x0 0)
    have hb3 : Below w.heap.size w w3 := HBB.out.grown hg (by omega) (by intro q hq; cases hq; omega)
    refine ⟨ho, h0, fun w4 hg4 => ⟨(hg4.cell_far ⟨w.heap.size, 0, none⟩ (by have := hg.size; simp; omega) (by simp)).trans h0, hb3.grown hg4 (by have := hg.size; omega) (by intro q hq; cases hq; omega)⟩⟩
  rcases hpn with ⟨hlt, hne⟩ | ⟨hpn, hl0⟩
  · go_wp2_with (refine wpList_copy_rowB rfl (.tmp 22) (.tmp 23) 24 24 rfl Try.underlying24 (some ⟨w.heap.size + 1, p, none⟩) l.length l.length rfl _ rfl (w.heap.size + 1) (w.heap.size + 1) n n Z HO1.out _ l HR.out p (fun _ => rfl) rfl (by have := HN.out; omega) ?_)
    intro w3 ho3' hg3
    obtain ⟨ho3, x3, h3⟩ := HCop.out w3 ho3' hg3
    have HO3 := Lib.hid ho3
    have H3 := Lib.hid h3
    clear ho3 h3 ho3' hg3 HO1 HR HP HCop x0 y0 hmk hfl
    generalize List.replicate (n - l.length) 0 ++ l = P at *
    go_wp2_with fail
    go_loopw [7] (fun vi wr => ∃ i : Nat, vi = .int .i64 i ∧ i ≤ n ∧ Hid (OwnB (w.heap.size + 1) wr (w.heap.size + 1) n n (cpZ P P i)) ∧ Hid (w3.grownBy wr (some (w.heap.size + 1)))) (fun vi _ => n - (intOf vi).toNat)
    case atStart => exact ⟨0, rfl, Nat.zero_le _, by show OwnB _ _ _ _ _ _; rw [cpZ_start]; exact HO3.out, World.grownBy.refl _ _⟩
    case round =>
      obtain ⟨i, rfl, hi, HOr, HG⟩ := hrel
      have xr := (H3.out wr HG.out).1
      have HBr := Lib.hid (H3.out wr HG.out).2
      by_cases hil : i < n
      · have zc := HOr.out.cell i hil
        have zf := HOr.out.free i
        rw [cpZ_get P P i (by rw [HPL.out]; exact hil)] at zc
        have HO' := Lib.hid (HOr.out.stored i (255 - P.getD i 0))
        rw [cpZ_set P P i _ (by rw [HPL.out]; exact hil) (by rw [HPL.out]; exact hil) rfl] at HO'
        have HG' := Lib.hid (HG.out.setCell (w.heap.size + 1) i (.int .u8 ((255 - P.getD i 0 : Nat) : Int)))
        have hy8 := getD_lt8 P HD8.out i
        generalize P.getD i 0 = y at *
        go_wp2
        rw [xor_u8 y hy8]
        exact ⟨⟨i + 1, by go_num, by omega, HO'.out, HG'.out⟩, by simp [intOf]; omega⟩
      · obtain rfl : i = n := by omega
        have HD := Lib.hid (cpZ_done P P rfl)
        rw [HPL.out] at HD
        go_wp2
        go_ret
        refine ⟨l, HI.out, hln, _, rfl, ?_, HBr.out⟩
        rw [HV.out, ← HD.out]
        exact HOr.out.le (by omega)
  · have ho2' : OwnB (w.heap.size + 1) w2 (w.heap.size + 1) n n (Z.take p ++ (l ++ Z.drop (p + l.length))) := by
      rw [List.eq_nil_of_length_eq_zero hl0]; simpa using HO1.out
    obtain ⟨ho3, x3, h3⟩ := HCop.out w2 ho2' (World.grownBy.refl _ _)
    have hfl0 : ∀ w : World, (Instr.field 30 (.agg #[.bool dd, .slice a2 0 c2]) 1).run Try.prog w = .ok (.slice a2 0 c2) w := fun w => run_field30 dd a2 0 c2 w
    have HLE := Lib.hid hl0
    obtain rfl := hpn
    rw [hl0]
    clear hl0 eS eN hfl
    go_wp2_with (refine wpList_copy_nothing rfl (.tmp 22) (.tmp 23) 24 24 rfl 5 Try.underlying24 size5 _ _ _ _ _ _ rfl rfl (by simp) ?_)
    clear hfl0
    have HO3 := Lib.hid ho3
    have H3 := Lib.hid h3
    clear ho3 h3 ho2' HO1 HR HP HCop x0 y0 hmk
    generalize List.replicate (n - l.length) 0 ++ l = P at *
    go_wp2_with fail
    go_loopw [7] (fun vi wr => ∃ i : Nat, vi = .int .i64 i ∧ i ≤ n ∧ Hid (OwnB (w.heap.size + 1) wr (w.heap.size + 1) n n (cpZ P P i)) ∧ Hid (w2.grownBy wr (some (w.heap.size + 1)))) (fun vi _ => n - (intOf vi).toNat)
    case atStart => exact ⟨0, rfl, Nat.zero_le _, by show OwnB _ _ _ _ _ _; rw [cpZ_start]; exact HO3.out, World.grownBy.refl _ _⟩
    case round =>
      obtain ⟨i, rfl, hi, HOr, HG⟩ := hrel
      have xr := (H3.out wr HG.out).1
      have HBr := Lib.hid (H3.out wr HG.out).2
      by_cases hil : i < n
      · have zc := HOr.out.cell i hil
        have zf := HOr.out.free i
        rw [cpZ_get P P i (by rw [HPL.out]; exact hil)] at zc
        have HO' := Lib.hid (HOr.out.stored i (255 - P.getD i 0))
        rw [cpZ_set P P i _ (by rw [HPL.out]; exact hil) (by rw [HPL.out]; exact hil) rfl] at HO'
        have HG' := Lib.hid (HG.out.setCell (w.heap.size + 1) i (.int .u8 ((255 - P.getD i 0 : Nat) : Int)))
        have hy8 := getD_lt8 P HD8.out i
        generalize P.getD i 0 = y at *
        go_wp2
        rw [xor_u8 y hy8]
        exact ⟨⟨i + 1, by go_num, by omega, HO'.out, HG'.out⟩, by simp [intOf]; omega⟩
      · obtain rfl : i = n := by omega
        have HD := Lib.hid (cpZ_done P P rfl)
        rw [HPL.out] at HD
        go_wp2
        go_ret
        refine ⟨l, HI.out, hln, _, rfl, ?_, HBr.out⟩
        rw [HV.out, ← HD.out]
        exact HOr.out.le (by omega)
end Go.Proofs.Ytidkdjnfpepnfaa
