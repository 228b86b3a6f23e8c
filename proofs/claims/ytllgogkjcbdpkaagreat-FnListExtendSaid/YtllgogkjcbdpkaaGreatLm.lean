/- The law of ListExtend walked. -/
import Derived.Test.YtllgogkjcbdpkaaGreatLl
namespace Go.Proofs.YtllgogkjcbdpkaaGreat
open Go.RowKit
open Z (Row VInt KInt BInt IsB IsW smallB MakesV MakesS MakesK CmpIs)

theorem wpList_append_blk_w {P : Program} {w : World} {ops : Array Oper} {rest : List Oper} {o : Oper} {a : Act} {Q : Exit → Act → World → Prop} (hgd : Region.wanted o (yielded ops a.tmps) = true) (s x : Operand) (t : TypeId)
    (ho : o.op = .call { callee := .builtin .append, args := #[s, x], argTypes := #[t, t] })
    (base : Nat) (e : TypeId) (i : TypeInfo) (z : Value) (size bytes : Nat) (ht : P.underlying t = some (.slice e)) (hi : P.info? e = some i) (hz : i.zero = some z)
    (hsize : i.size = size) (hby : i.bytes = bytes) (hzs : z.cells.size = size) (hsz : 0 < size)
    (v : Value) (n : Nat) (xs : List Value) (hs : a.eval s = v) (hown : w.ownsRow base e size v n xs)
    (vx : Value) (m : Nat) (news : List Value) (hx : a.eval x = vx) (hsrc : SrcAt w vx m news) (hl : news.length = m * size) (h1 : ∀ u ∈ news, u.oneCell' = true)
    (h63 : n + m ≤ maxLen) (hbytes : (n + m) * bytes ≤ 140737488355328) (hbase : base ≤ w.heap.size)
    (h : ∀ v' w', w'.ownsRow base e size v' (n + m) (xs ++ news) → w.grownBy w' v.ownBlock → BlockOf w v v' → wpList P ops Q rest (a.put o.dst v') w') : wpList P ops Q (o :: rest) a w :=
  wpList_step fun K hK => by rw [if_pos hgd]; exact wp_append_blk s x t ho base e i z size bytes ht hi hz hsize hby hzs hsz v n xs hs hown vx m news hx hsrc hl h1 h63 hbytes hbase fun v' w' h2 h3 h4 => hK _ _ (h v' w' h2 h3 h4)
theorem GL.append {P : Pred} (G : Good P) {e : TypeId} {z B : Nat} {ok : Nat → Prop} {w X w2 : World} {v v' : Value} {ps rs : Ps} (h : GL P e z B ok w v ps) (hX : Below w.heap.size w X) (ho : w2.ownsRow B e z v' (ps.length + rs.length) (flat ps ++ flat rs)) (hg : X.grownBy w2 v.ownBlock) (hv : BlockOf X v v')
    (hr : ∀ p ∈ rs, P ok w p.1 p.2) : GL P e z B ok w2 v' (ps ++ rs) := by
  have s1 : Same ok w w2 := (Same.below hX).trans (.grown hg fun k hk => h.2.1 k hk)
  refine ⟨?_, ?_, ?_, ?_⟩
  · rw [flat_append, List.length_append]; exact ho
  · intro g hg2 hk
    rcases hv with hv | ⟨b, hv, hb⟩
    · exact h.2.1 g (hv ▸ hg2) hk
    · rw [hv] at hg2; cases hg2
      have := h.2.2.1 _ hk; have := hX.size; omega
  · intro b hk
    exact Nat.lt_of_lt_of_le (h.2.2.1 b hk) s1.1
  · intro p hp
    rcases List.mem_append.1 hp with hp | hp
    · exact G.same (h.2.2.2 p hp) s1
    · exact G.same (hr p hp) s1
theorem ArgsL.below {w w' : World} {A : Option Addr} {n c : Nat} (h : ArgsL w A n c) (hb : Below w.heap.size w w') : ArgsL w' A n c := by
  rcases h with h | ⟨g, off, h1, h2, h3⟩
  · exact .inl h
  · refine .inr ⟨g, off, h1, h2, fun i hi => ?_⟩
    obtain ⟨k, d, s, b, t, q, ha, x0, x1, x2, x3, x4, x5⟩ := h3 i hi
    exact ⟨k, d, s, b, t, q, ha.below hb, cell_below x0 hb, cell_below x1 hb, cell_below x2 hb, cell_below x3 hb, cell_below x4 hb, cell_below x5 hb⟩
theorem flat_one {ok : Nat → Prop} {w : World} {ps : Ps} (h : ∀ p ∈ ps, VP ok w p.1 p.2) : ∀ u ∈ flat ps, u.oneCell' = true := fun u hu => by
  obtain ⟨p, hp, hu⟩ := List.mem_flatMap.1 hu
  obtain ⟨_, _, _, _, _, _, _, _, h1⟩ := (h p hp).cells6
  exact h1 u hu
set_option maxRecDepth 100000 in
theorem f3_big1 (A1 A2 : Option Addr) (n1 c1 n2 c2 : Nat) (own : Bool) (h : 2147483647 < n1) (w : World) : Calls Tryz.prog 3 #[.slice A1 n1 c1, .slice A2 n2 c2, .bool own] w (TrueIs w) := by
  go_enter Tryz.func3, Tryz.ntmps3
  go_wp2
  go_ret
  exact ⟨rfl, Below.refl _ _⟩
set_option maxRecDepth 100000 in
theorem f3_big2 (A1 A2 : Option Addr) (n1 c1 n2 c2 : Nat) (own : Bool) (h : n1 ≤ 2147483647) (h2 : 2147483647 < n2) (w : World) : Calls Tryz.prog 3 #[.slice A1 n1 c1, .slice A2 n2 c2, .bool own] w (TrueIs w) := by
  go_enter Tryz.func3, Tryz.ntmps3
  go_wp2
  go_ret
  exact ⟨rfl, Below.refl _ _⟩
set_option maxRecDepth 100000 in
set_option maxHeartbeats 8000000 in
theorem f3_own (A1 A2 : Option Addr) (n1 c1 n2 c2 : Nat) (h1 : n1 ≤ 2147483647) (h2 : n2 ≤ 2147483647) (w : World) (ha1 : ArgsL w A1 n1 c1) (ha2 : ArgsL w A2 n2 c2) : Calls Tryz.prog 3 #[.slice A1 n1 c1, .slice A2 n2 c2, .bool true] w (TrueIs w) := by
  obtain ⟨i0, hi, hz0, hz1, hz2⟩ := info_parts infoV
  have H4 := Lib.hid (f4_any A1 n1 c1 w ha1)
  have H4' := Lib.hid (fun w1 hb => f4_any A2 n2 c2 w1 (ha2.below hb))
  clear ha1 ha2
  go_enter Tryz.func3, Tryz.ntmps3
  go_wp2_with fail
  go_at_call 4
  refine H4.out.mono ?_
  rintro e w1 ⟨v1, ps, ok1, rfl, hv1, hl1, hb1⟩
  have HV1 := Lib.hid hv1
  have HL1 := Lib.hid hl1
  have HB1 := Lib.hid hb1
  have H4'' := Lib.hid (H4'.out w1 hb1)
  clear hv1 hl1 hb1 H4 H4'
  go_wp2_with fail
  go_at_call 4
  refine H4''.out.mono ?_
  rintro e w2 ⟨v2, rs, ok2, rfl, hv2, hl2, hb2⟩
  obtain ⟨VA1, VC1, rfl⟩ := own_len HV1.out.1
  obtain ⟨VA2, VC2, rfl⟩ := own_len hv2.1
  have HV1' := Lib.hid (HV1.out.below goodV hb2)
  have HV2 := Lib.hid hv2
  have HL2 := Lib.hid hl2
  have HB2 := Lib.hid (HB1.out.trans (hb2.mono HB1.out.size))
  have H5 := Lib.hid (f5_own _ _ ok1 ok2 _ _ ps rs HL1.out hl2 w2 (HV1.out.below goodV hb2) hv2)
  clear hv2 hl2 hb2 H4''
  go_wp2_with fail
  go_at_call 5
  refine H5.out.mono ?_
  rintro e w3 ⟨v3, out, ok3, rfl, hv3, hm3, hb3⟩
  obtain ⟨VA3, VC3, rfl⟩ := own_len hv3.1
  have HV1 := Lib.hid (HV1'.out.below goodV hb3)
  have HV2 := Lib.hid (HV2.out.below goodV hb3)
  have HV3 := Lib.hid hv3
  have HM3 := Lib.hid hm3
  have HB3 := Lib.hid (HB2.out.trans (hb3.mono HB2.out.size))
  clear hv3 hm3 hb3 H5
  have HE : Hid (GL VP 31 6 w3.heap.size (fun b => ok1 b ∨ ok2 b) (w3.alloc (.cells #[] 31)) (.slice (some ⟨w3.heap.size, 0, none⟩) 0 0) []) := by
    refine ⟨⟨by simp [flat], .inr ⟨w3.heap.size, 0, #[], rfl, Nat.le_refl _, heap_alloc_new w3 _, Nat.le_refl _, by unfold maxLen; omega, rfl, rfl⟩⟩, fun g hg hb => ?_, fun b hb => ?_, fun p hp => (by cases hp)⟩
    · cases hg
      exact hb.elim (fun h => Nat.lt_irrefl _ (HV1.out.2.2.1 _ h)) (fun h => Nat.lt_irrefl _ (HV2.out.2.2.1 _ h))
    · have : b < w3.heap.size := hb.elim (HV1.out.2.2.1 _) (HV2.out.2.2.1 _)
      simp; omega
  have bel4 : Below w3.heap.size w3 (w3.alloc (.cells #[] 31)) := (Below.refl _ _).alloc (Nat.le_refl _) _
  have HS1 : Hid (SrcAt (w3.alloc (.cells #[] 31)) (.slice VA1 ps.length VC1) ps.length (flat ps)) := .own (HV1.out.below goodV bel4).1
  have HF1 : Hid ((flat ps).length = ps.length * 6) := HV1.out.1.1
  have HN1 := Lib.hid (flat_one HV1.out.2.2.2)
  have KH : Hid (0 + ps.length ≤ maxLen ∧ (0 + ps.length) * 88 ≤ 140737488355328) := by have := HL1.out; unfold maxLen; constructor <;> omega
  have HB4 := Lib.hid bel4
  clear bel4
  go_wp2_with (at_builtin; refine wpList_append_blk_w (by rfl) (.tmp 38) (.tmp 39) 22 rfl w3.heap.size 31 i0 (valOf 0 0 ⟨#[]⟩) 6 88 Tryz.underlying22 hi hz0 hz1 hz2 rfl (by decide) (.slice (some ⟨w3.heap.size, 0, none⟩) 0 0) 0 [] rfl HE.out.1 (.slice VA1 ps.length VC1) ps.length (flat ps) rfl HS1.out HF1.out HN1.out KH.out.1 KH.out.2 HB4.out.size ?_)
  intro v' w4 ho hg hv
  have HG1 : Hid (GL VP 31 6 w3.heap.size (fun b => ok1 b ∨ ok2 b) w4 v' ps) := (HE.out.append goodV (rs := ps) (Below.refl _ _) (by simpa [flat] using ho) hg hv (fun p hp => ((HV1.out.2.2.2 p hp).mono fun b hb => .inl hb).same (.alloc _ _ _)))
  have HB5 := Lib.hid (HB4.out.grown hg HB4.out.size (fun k hk => by cases hk; exact Nat.le_refl _))
  obtain ⟨A4, C4, rfl⟩ := own_len ho
  clear ho hg hv HS1 HF1 HN1
  have HVM := Lib.hid (HV1.out.below goodV HB5.out)
  have HS2 : Hid (SrcAt w4 (.slice VA1 ps.length VC1) ps.length (flat ps)) := .own HVM.out.1
  have HF2 : Hid ((flat ps).length = ps.length * 6) := HVM.out.1.1
  have HN2 := Lib.hid (flat_one HVM.out.2.2.2)
  have HO4 : Hid (w4.ownsRow w3.heap.size 31 6 (.slice A4 ps.length C4) ps.length (flat ps)) := HG1.out.1
  have KH2 : Hid (ps.length + ps.length ≤ maxLen ∧ (ps.length + ps.length) * 88 ≤ 140737488355328) := by have := HL1.out; have := HL2.out; unfold maxLen; constructor <;> omega
  have HB6 := Lib.hid (HB3.out.trans (HB5.out.mono HB3.out.size))
  clear HE HB4 HV1'
  go_wp2_with (at_builtin; refine wpList_append_blk_w (by rfl) (.tmp 40) (.tmp 41) 22 rfl w3.heap.size 31 i0 (valOf 0 0 ⟨#[]⟩) 6 88 Tryz.underlying22 hi hz0 hz1 hz2 rfl (by decide) (.slice A4 ps.length C4) ps.length (flat ps) (by rfl) HO4.out (.slice VA1 ps.length VC1) ps.length (flat ps) (by rfl) HS2.out HF2.out HN2.out KH2.out.1 KH2.out.2 HB5.out.size ?_)
  intro v' w5 ho hg hv
  have HG2 := Lib.hid (HG1.out.append goodV (rs := ps) (Below.refl _ _) (by simpa using ho) hg hv (fun p hp => (HVM.out.2.2.2 p hp).mono fun b hb => .inl hb))
  have HB7 := Lib.hid (HB5.out.grown hg HB5.out.size (fun k hk => (HO4.out.lt k hk).1))
  obtain ⟨A5, C5, rfl⟩ := own_len ho
  clear ho hg hv HS2 HF2 HN2
  have HB8 := Lib.hid (HB3.out.trans (HB7.out.mono HB3.out.size))
  have H6 := Lib.hid (f6_any _ _ _ _ _ _ out (ps ++ ps) (by have := congrArg List.length HM3.out; have := HL1.out; have := HL2.out; simp at *; omega) (by rw [HM3.out, List.map_append]) w5 (HV3.out.below goodV HB7.out) HG2.out)
  go_wp2_with fail
  go_at_call 6
  refine (by simpa using H6.out : Calls Tryz.prog 6 _ w5 (TrueIs w5)).mono ?_
  rintro e w6 ⟨rfl, hb6⟩
  have HBF := Lib.hid (HB8.out.trans (hb6.mono HB8.out.size))
  clear hb6
  go_wp2
  go_ret
  exact ⟨rfl, HBF.out⟩
set_option maxRecDepth 100000 in
set_option maxHeartbeats 8000000 in
theorem f3_tuple (A1 A2 : Option Addr) (n1 c1 n2 c2 : Nat) (h1 : n1 ≤ 2147483647) (h2 : n2 ≤ 2147483647) (w : World) (ha1 : ArgsL w A1 n1 c1) (ha2 : ArgsL w A2 n2 c2) : Calls Tryz.prog 3 #[.slice A1 n1 c1, .slice A2 n2 c2, .bool false] w (TrueIs w) := by
  obtain ⟨i0, hi, hz0, hz1, hz2⟩ := info_parts infoV
  have H4 := Lib.hid (f4_any A1 n1 c1 w ha1)
  have H4' := Lib.hid (fun w1 hb => f4_any A2 n2 c2 w1 (ha2.below hb))
  clear ha1 ha2
  go_enter Tryz.func3, Tryz.ntmps3
  go_wp2_with fail
  go_at_call 4
  refine H4.out.mono ?_
  rintro e w1 ⟨v1, ps, ok1, rfl, hv1, hl1, hb1⟩
  have HV1 := Lib.hid hv1
  have HL1 := Lib.hid hl1
  have HB1 := Lib.hid hb1
  have H4'' := Lib.hid (H4'.out w1 hb1)
  clear hv1 hl1 hb1 H4 H4'
  go_wp2_with fail
  go_at_call 4
  refine H4''.out.mono ?_
  rintro e w2 ⟨v2, rs, ok2, rfl, hv2, hl2, hb2⟩
  obtain ⟨VA1, VC1, rfl⟩ := own_len HV1.out.1
  obtain ⟨VA2, VC2, rfl⟩ := own_len hv2.1
  have HV1' := Lib.hid (HV1.out.below goodV hb2)
  have HV2 := Lib.hid hv2
  have HL2 := Lib.hid hl2
  have HB2 := Lib.hid (HB1.out.trans (hb2.mono HB1.out.size))
  have H5 := Lib.hid (f5_tuple _ _ ok1 ok2 _ _ ps rs HL1.out hl2 w2 (HV1.out.below goodV hb2) hv2)
  clear hv2 hl2 hb2 H4''
  go_wp2_with fail
  go_at_call 5
  refine H5.out.mono ?_
  rintro e w3 ⟨v3, out, ok3, rfl, hv3, hm3, hb3⟩
  obtain ⟨VA3, VC3, rfl⟩ := own_len hv3.1
  have HV1 := Lib.hid (HV1'.out.below goodV hb3)
  have HV2 := Lib.hid (HV2.out.below goodV hb3)
  have HV3 := Lib.hid hv3
  have HM3 := Lib.hid hm3
  have HB3 := Lib.hid (HB2.out.trans (hb3.mono HB2.out.size))
  clear hv3 hm3 hb3 H5
  have HE : Hid (GL VP 31 6 w3.heap.size (fun b => ok1 b ∨ ok2 b) (w3.alloc (.cells #[] 31)) (.slice (some ⟨w3.heap.size, 0, none⟩) 0 0) []) := by
    refine ⟨⟨by simp [flat], .inr ⟨w3.heap.size, 0, #[], rfl, Nat.le_refl _, heap_alloc_new w3 _, Nat.le_refl _, by unfold maxLen; omega, rfl, rfl⟩⟩, fun g hg hb => ?_, fun b hb => ?_, fun p hp => (by cases hp)⟩
    · cases hg
      exact hb.elim (fun h => Nat.lt_irrefl _ (HV1.out.2.2.1 _ h)) (fun h => Nat.lt_irrefl _ (HV2.out.2.2.1 _ h))
    · have : b < w3.heap.size := hb.elim (HV1.out.2.2.1 _) (HV2.out.2.2.1 _)
      simp; omega
  have bel4 : Below w3.heap.size w3 (w3.alloc (.cells #[] 31)) := (Below.refl _ _).alloc (Nat.le_refl _) _
  have HS1 : Hid (SrcAt (w3.alloc (.cells #[] 31)) (.slice VA1 ps.length VC1) ps.length (flat ps)) := .own (HV1.out.below goodV bel4).1
  have HF1 : Hid ((flat ps).length = ps.length * 6) := HV1.out.1.1
  have HN1 := Lib.hid (flat_one HV1.out.2.2.2)
  have KH : Hid (0 + ps.length ≤ maxLen ∧ (0 + ps.length) * 88 ≤ 140737488355328) := by have := HL1.out; unfold maxLen; constructor <;> omega
  have HB4 := Lib.hid bel4
  clear bel4
  go_wp2_with (at_builtin; refine wpList_append_blk_w (by rfl) (.tmp 38) (.tmp 39) 22 rfl w3.heap.size 31 i0 (valOf 0 0 ⟨#[]⟩) 6 88 Tryz.underlying22 hi hz0 hz1 hz2 rfl (by decide) (.slice (some ⟨w3.heap.size, 0, none⟩) 0 0) 0 [] rfl HE.out.1 (.slice VA1 ps.length VC1) ps.length (flat ps) rfl HS1.out HF1.out HN1.out KH.out.1 KH.out.2 HB4.out.size ?_)
  intro v' w4 ho hg hv
  have HG1 : Hid (GL VP 31 6 w3.heap.size (fun b => ok1 b ∨ ok2 b) w4 v' ps) := (HE.out.append goodV (rs := ps) (Below.refl _ _) (by simpa [flat] using ho) hg hv (fun p hp => ((HV1.out.2.2.2 p hp).mono fun b hb => .inl hb).same (.alloc _ _ _)))
  have HB5 := Lib.hid (HB4.out.grown hg HB4.out.size (fun k hk => by cases hk; exact Nat.le_refl _))
  obtain ⟨A4, C4, rfl⟩ := own_len ho
  clear ho hg hv HS1 HF1 HN1
  have HVM := Lib.hid (HV2.out.below goodV HB5.out)
  have HS2 : Hid (SrcAt w4 (.slice VA2 rs.length VC2) rs.length (flat rs)) := .own HVM.out.1
  have HF2 : Hid ((flat rs).length = rs.length * 6) := HVM.out.1.1
  have HN2 := Lib.hid (flat_one HVM.out.2.2.2)
  have HO4 : Hid (w4.ownsRow w3.heap.size 31 6 (.slice A4 ps.length C4) ps.length (flat ps)) := HG1.out.1
  have KH2 : Hid (ps.length + rs.length ≤ maxLen ∧ (ps.length + rs.length) * 88 ≤ 140737488355328) := by have := HL1.out; have := HL2.out; unfold maxLen; constructor <;> omega
  have HB6 := Lib.hid (HB3.out.trans (HB5.out.mono HB3.out.size))
  clear HE HB4 HV1'
  go_wp2_with (at_builtin; refine wpList_append_blk_w (by rfl) (.tmp 40) (.tmp 41) 22 rfl w3.heap.size 31 i0 (valOf 0 0 ⟨#[]⟩) 6 88 Tryz.underlying22 hi hz0 hz1 hz2 rfl (by decide) (.slice A4 ps.length C4) ps.length (flat ps) (by rfl) HO4.out (.slice VA2 rs.length VC2) rs.length (flat rs) (by rfl) HS2.out HF2.out HN2.out KH2.out.1 KH2.out.2 HB5.out.size ?_)
  intro v' w5 ho hg hv
  have HG2 := Lib.hid (HG1.out.append goodV (rs := rs) (Below.refl _ _) (by simpa using ho) hg hv (fun p hp => (HVM.out.2.2.2 p hp).mono fun b hb => .inr hb))
  have HB7 := Lib.hid (HB5.out.grown hg HB5.out.size (fun k hk => (HO4.out.lt k hk).1))
  obtain ⟨A5, C5, rfl⟩ := own_len ho
  clear ho hg hv HS2 HF2 HN2
  have HB8 := Lib.hid (HB3.out.trans (HB7.out.mono HB3.out.size))
  have H6 := Lib.hid (f6_any _ _ _ _ _ _ out (ps ++ rs) (by have := congrArg List.length HM3.out; have := HL1.out; have := HL2.out; simp at *; omega) (by rw [HM3.out, List.map_append]) w5 (HV3.out.below goodV HB7.out) HG2.out)
  go_wp2_with fail
  go_at_call 6
  refine (by simpa using H6.out : Calls Tryz.prog 6 _ w5 (TrueIs w5)).mono ?_
  rintro e w6 ⟨rfl, hb6⟩
  have HBF := Lib.hid (HB8.out.trans (hb6.mono HB8.out.size))
  clear hb6
  go_wp2
  go_ret
  exact ⟨rfl, HBF.out⟩
theorem f3_any (A1 A2 : Option Addr) (n1 c1 n2 c2 : Nat) (own : Bool) (w : World) (ha1 : ArgsL w A1 n1 c1) (ha2 : ArgsL w A2 n2 c2) : Calls Tryz.prog 3 #[.slice A1 n1 c1, .slice A2 n2 c2, .bool own] w (TrueIs w) := by
  by_cases h1 : 2147483647 < n1
  · exact f3_big1 A1 A2 n1 c1 n2 c2 own h1 w
  · by_cases h2 : 2147483647 < n2
    · exact f3_big2 A1 A2 n1 c1 n2 c2 own (by omega) h2 w
    · cases own
      · exact f3_tuple A1 A2 n1 c1 n2 c2 (by omega) (by omega) w ha1 ha2
      · exact f3_own A1 A2 n1 c1 n2 c2 (by omega) (by omega) w ha1 ha2
end Go.Proofs.YtllgogkjcbdpkaaGreat
