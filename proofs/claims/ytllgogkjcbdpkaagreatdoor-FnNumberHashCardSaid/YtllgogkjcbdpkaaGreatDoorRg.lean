/- The reference's Nearest: some finite float. -/
import Derived.Test.YtllgogkjcbdpkaaGreatDoorRf
import Derived.Test.YtllgogkjcbdpkaaGreatDoorZV2
import Derived.Deep.DeepCutAuto
import Derived.Deep.CutBlock
import Derived.WalkLawsBesides
import Derived.IntWalk
namespace Go.Proofs.YtllgogkjcbdpkaaGreatDoor.Z
open Go.RowKit

theorem pow_960 {m n : Nat} (h : m ≤ n) : (2 : Nat) ^ m ≤ 2 ^ n := Nat.pow_le_pow_right (by decide) h
theorem len_max {n K L M : Nat} {l : List Nat} (h : LenIs n K) (hb : IsB n l) (hL : l.length = L) (hl : 8 * L ≤ M) : K ≤ M := by
  subst hL
  have h1 : n < 2 ^ M := Nat.lt_of_lt_of_le hb.lt (by rw [p8]; exact pow_960 hl)
  rcases h.2 with h0 | h2
  · omega
  · by_cases hk : K ≤ M
    · exact hk
    · exact absurd (Nat.lt_of_lt_of_le h1 (Nat.le_trans (pow_960 (show M ≤ K - 1 by omega)) h2)) (Nat.lt_irrefl _)
theorem blk_cells {W : World} {p : Nat} {x y : Value} {t : TypeId} (h : W.heap[p]? = some (.cells #[x, y] t (0, 0))) : (∀ i, W.cell? ⟨p, i, none⟩ = #[x, y][i]?) ∧ (∀ i, W.frozen? ⟨p, i, none⟩ = false) ∧ p < W.heap.size :=
  ⟨fun i => by simp [World.cell?, h], fun i => by simp [World.frozen?, h], (Array.getElem?_eq_some_iff.1 h).1⟩
theorem SInt.alloc0 {B n : Nat} {w : World} {v : Value} {z : Int} (h : SInt B n w v z) (o : Obj) : SInt 0 n (w.alloc o) v z := (h.below ((Below.refl w.heap.size w).alloc (Nat.le_refl _) o) (Nat.le_refl _)).le (Nat.zero_le _) (Nat.le_refl _)
theorem blk_new {W W' : World} {o : Obj} (b : Below (W.alloc o).heap.size (W.alloc o) W') : Hid (W'.heap[W.heap.size]? = some o) := Lib.hid ((b.block _ (by simp)).trans (heap_alloc_new W o))
theorem blk_newd {W W' : World} {o : Obj} (b : Below ((W.alloc o).drew).heap.size ((W.alloc o).drew) W') : Hid (W'.heap[W.heap.size]? = some o) := Lib.hid ((b.block _ (by show W.heap.size < (W.alloc o).heap.size; simp)).trans (heap_alloc_new W o))
theorem blk_old {W W' : World} {p : Nat} {o : Obj} (b : Below W.heap.size W W') (h : Hid (W.heap[p]? = some o)) : Hid (W'.heap[p]? = some o) := Lib.hid ((b.block _ (Array.getElem?_eq_some_iff.1 h.out).1).trans h.out)
theorem kept_lt {A K P : Nat} (h : LenIs A K) (hP : K ≤ P + 53) : A / 2 ^ P < 2 ^ 53 := by
  rw [Nat.div_lt_iff_lt_mul (Nat.two_pow_pos _), ← Nat.pow_add]
  exact Nat.lt_of_lt_of_le h.1 (pow_960 (by omega))
def AtC1 (w : World) (d : Bool) (p6 M : Nat) (s7 : Value) (wr : World) : Prop := ∃ (p7 : Nat) (Y : Int), s7 = .pointer (some ⟨p7, 0, none⟩) ∧ Box wr p7 700 Y ∧ Box wr p6 120 (M : Int) ∧ wr.cell? ⟨w.heap.size, 0, none⟩ = some (.bool d) ∧ Below w.heap.size w wr
theorem c1_new {w W4 w6 : World} {d d7 : Bool} {p6 M : Nat} {B : Nat} {a7 : Option Addr} {m7 c7 : Nat} {Y : Int} (h6 : Box W4 p6 120 (M : Int)) (hb : Below W4.heap.size W4 w6) (hx : W4.cell? ⟨w.heap.size, 0, none⟩ = some (.bool d)) (hw : Below w.heap.size w W4) (h7 : SInt B 634 w6 (.agg #[.bool d7, .slice a7 m7 c7]) Y) : AtC1 w d p6 M (.pointer (some ⟨w6.heap.size, 0, none⟩)) (w6.alloc (.cells #[.bool d7, .slice a7 m7 c7] 24)) := by
  have hb2 : Below W4.heap.size W4 (w6.alloc (.cells #[.bool d7, .slice a7 m7 c7] 24)) := hb.alloc hb.size _
  exact ⟨_, Y, rfl, (Box.new h7).le (by omega), h6.below hb2, cell_below hx hb2, hw.trans (hb2.mono hw.size)⟩
theorem c1_old {w W4 w6 : World} {d d7 : Bool} {p6 q M : Nat} {B : Nat} {a7 : Option Addr} {m7 c7 : Nat} {Y : Int} (h6 : Box W4 p6 120 (M : Int)) (hb : Below W4.heap.size W4 w6) (hx : W4.cell? ⟨w.heap.size, 0, none⟩ = some (.bool d)) (hw : Below w.heap.size w W4) (h7 : SInt B 634 w6 (.agg #[.bool d7, .slice a7 m7 c7]) Y) {x y : Value} (hq : w6.heap[q]? = some (.cells #[x, y] 24 (0, 0))) (hqB : q < B) (hq4 : W4.heap.size ≤ q) : AtC1 w d p6 M (.pointer (some ⟨q, 0, none⟩)) ((w6.setCell ⟨q, 0, none⟩ (.bool d7)).setCell ⟨q, 1, none⟩ (.slice a7 m7 c7)) := by
  have hb2 : Below W4.heap.size W4 ((w6.setCell ⟨q, 0, none⟩ (.bool d7)).setCell ⟨q, 1, none⟩ (.slice a7 m7 c7)) := (hb.setCell (p := ⟨q, 0, none⟩) hq4 _).setCell (p := ⟨q, 1, none⟩) hq4 _
  exact ⟨_, Y, rfl, (Box.stored hq h7 hqB).le (by omega), h6.below hb2, cell_below hx hb2, hw.trans (hb2.mono hw.size)⟩
def AtC2 (w : World) (d : Bool) (p6 : Nat) (wr : World) : Prop := ∃ M : Nat, M ≤ 2 ^ 53 ∧ Box wr p6 400 (M : Int) ∧ wr.cell? ⟨w.heap.size, 0, none⟩ = some (.bool d) ∧ Below w.heap.size w wr
theorem f17_int (i : Int) (h0 : 0 ≤ i) (h1 : i ≤ 4096) (w : World) : Calls Tryz.prog 17 #[.int .i64 i] w (MakesS 513 (2 ^ i.toNat) w) := by
  have := f17_any i.toNat (by omega) w
  rwa [Int.toNat_of_nonneg h0] at this
theorem cmp3 (x y : Int) : cmpZ x y = -1 ∨ cmpZ x y = 0 ∨ cmpZ x y = 1 := by
  unfold cmpZ
  by_cases h : x < y
  · rw [if_pos h]; exact .inl rfl
  · rw [if_neg h]
    by_cases h2 : x = y
    · rw [if_pos h2]; exact .inr (.inl rfl)
    · rw [if_neg h2]; exact .inr (.inr rfl)
def Cmp3 (w : World) (e : Ending) (w' : World) : Prop := ∃ q : Int, (q = -1 ∨ q = 0 ∨ q = 1) ∧ e = .returned (.int .i64 q) ∧ Below w.heap.size w w'
theorem f16_some (k : Nat) (hk : k ≤ 100000) (v1 v2 : Value) (z1 z2 : Int) (B : Nat) (w : World) (hx : SInt B k w v1 z1) (hy : SInt B k w v2 z2) : Calls Tryz.prog 16 #[v1, v2] w (Cmp3 w) :=
  (f16_any k hk v1 v2 z1 z2 B w hx hy).mono fun _ _ ⟨he, hb⟩ => ⟨_, cmp3 z1 z2, he, hb⟩
def BitIs (W : World) (e : Ending) (w' : World) : Prop := (e = .returned (.int .i64 0) ∨ e = .returned (.int .i64 1)) ∧ W = w'
theorem bit0 {n : Nat} {W : World} {u : Bool} {r : Option Addr} {i j : Nat} {z : Int} (hn : n ≤ 1000) (h : SInt 0 n W (.agg #[.bool u, .slice r i j]) z) : Calls Tryz.prog 18 #[.slice r i j, .int .i64 0] W (BitIs W) := by
  obtain ⟨sl, l, h1, h2, h3, h4⟩ := h
  injection h1 with h1
  have e : Value.slice r i j = sl := by have h1' := congrArg Array.toList h1; injection h1' with _ h1'; injection h1'
  subst e
  refine (f18_any _ l (by omega) h3.low 0 0 (by omega) W h2).mono ?_
  rintro e w' ⟨rfl, rfl⟩
  refine ⟨?_, rfl⟩
  have := bt_lt (bv l) 0
  generalize bt (bv l) 0 = q at *
  have hq : q = 0 ∨ q = 1 := by omega
  rcases hq with rfl | rfl
  · exact .inl rfl
  · exact .inr rfl
theorem c2_same {w W4 W : World} {d : Bool} {p6 M : Nat} (h6 : Box W4 p6 120 (M : Int)) (hM : M < 2 ^ 53) (hb : Below W4.heap.size W4 W) (hx : W4.cell? ⟨w.heap.size, 0, none⟩ = some (.bool d)) (hw : Below w.heap.size w W4) : AtC2 w d p6 W :=
  ⟨M, Nat.le_of_lt hM, (h6.below hb).le (by omega), cell_below hx hb, hw.trans (hb.mono hw.size)⟩
theorem c2_more {w W4 W : World} {d d7 : Bool} {p6 M B : Nat} {a7 : Option Addr} {m7 c7 : Nat} (h6 : Box W4 p6 120 (M : Int)) (hM : M < 2 ^ 53) (hb : Below W4.heap.size W4 W) (hx : W4.cell? ⟨w.heap.size, 0, none⟩ = some (.bool d)) (hw : Below w.heap.size w W4) (hp : w.heap.size < p6) (hB : p6 < B) (h7 : SInt B 121 W (.agg #[.bool d7, .slice a7 m7 c7]) ((M : Int) + 1)) : AtC2 w d p6 ((W.setCell ⟨p6, 0, none⟩ (.bool d7)).setCell ⟨p6, 1, none⟩ (.slice a7 m7 c7)) := by
  obtain ⟨x, y, hq⟩ := (h6.below hb).blk
  refine ⟨M + 1, hM, (Box.stored hq h7 hB).le (by omega), ?_, ?_⟩
  · have := cell_below hx hb
    have n1 : w.heap.size ≠ p6 := Nat.ne_of_lt hp
    exact set_other (set_other this n1) n1
  · exact ((hw.trans (hb.mono hw.size)).setCell (p := ⟨p6, 0, none⟩) (Nat.le_of_lt hp) _).setCell (p := ⟨p6, 1, none⟩) (Nat.le_of_lt hp) _
def AtC3 (w : World) (d : Bool) (p6 : Nat) (s4 s6 : Value) (wr : World) : Prop := ∃ q M : Nat, q ≤ 908 ∧ M < 2 ^ 53 ∧ s4 = .int .i64 q ∧ s6 = .pointer (some ⟨p6, 0, none⟩) ∧ Box wr p6 400 (M : Int) ∧ wr.cell? ⟨w.heap.size, 0, none⟩ = some (.bool d) ∧ Below w.heap.size w wr
theorem len_few {M : Nat} (hM : M ≤ 2 ^ 53) : M / 2 ^ 1 < 2 ^ 53 := by
  rw [Nat.pow_one, Nat.div_lt_iff_lt_mul (by decide)]
  exact Nat.lt_of_le_of_lt hM (by decide)
theorem len_small {M K : Nat} (h : LenIs M K) (hK : ¬ 53 < K) : M < 2 ^ 53 := Nat.lt_of_lt_of_le h.1 (pow_960 (by omega))
theorem len_53 {M K : Nat} (h : LenIs M K) (hM : M < 2 ^ 53) : K ≤ 53 := by
  rcases h.2 with h0 | h2
  · omega
  · by_cases hk : K ≤ 53
    · exact hk
    · exact absurd (Nat.lt_of_lt_of_le hM (Nat.le_trans (pow_960 (show 53 ≤ K - 1 by omega)) h2)) (Nat.lt_irrefl _)
theorem c3_same {w W4 W : World} {d : Bool} {p6 M q : Nat} (h6 : Box W4 p6 400 (M : Int)) (hM : M < 2 ^ 53) (hq : q ≤ 908) (hb : Below W4.heap.size W4 W) (hx : W4.cell? ⟨w.heap.size, 0, none⟩ = some (.bool d)) (hw : Below w.heap.size w W4) : AtC3 w d p6 (.int .i64 q) (.pointer (some ⟨p6, 0, none⟩)) W :=
  ⟨q, M, hq, hM, rfl, rfl, h6.below hb, cell_below hx hb, hw.trans (hb.mono hw.size)⟩
theorem c3_half {w W4 W : World} {d d7 : Bool} {p6 M M' B q : Nat} {a7 : Option Addr} {m7 c7 : Nat} (h6 : Box W4 p6 400 (M : Int)) (hM : M' < 2 ^ 53) (hq : q ≤ 907) (hb : Below W4.heap.size W4 W) (hx : W4.cell? ⟨w.heap.size, 0, none⟩ = some (.bool d)) (hw : Below w.heap.size w W4) (hp : w.heap.size < p6) (hB : p6 < B) (h7 : SInt B 400 W (.agg #[.bool d7, .slice a7 m7 c7]) (M' : Int)) : AtC3 w d p6 (.int .i64 ((q : Int) + 1)) (.pointer (some ⟨p6, 0, none⟩)) ((W.setCell ⟨p6, 0, none⟩ (.bool d7)).setCell ⟨p6, 1, none⟩ (.slice a7 m7 c7)) := by
  obtain ⟨x, y, hq'⟩ := (h6.below hb).blk
  refine ⟨q + 1, M', by omega, hM, rfl, rfl, Box.stored hq' h7 hB, ?_, ?_⟩
  · have := cell_below hx hb
    have n1 : w.heap.size ≠ p6 := Nat.ne_of_lt hp
    exact set_other (set_other this n1) n1
  · exact ((hw.trans (hb.mono hw.size)).setCell (p := ⟨p6, 0, none⟩) (Nat.le_of_lt hp) _).setCell (p := ⟨p6, 1, none⟩) (Nat.le_of_lt hp) _
theorem float_any (x : Nat) (h : x < 18446744073709551616) : ∃ r, floatOfInt .f64 (x : Int) = fw false r ∧ Okr r ∧ r ≤ 1087 * 2 ^ 52 := by
  by_cases h0 : x = 0
  · subst h0; exact ⟨0, of_zero, .inl rfl, by decide⟩
  · obtain ⟨r, h1, h2, h3⟩ := of_nat x h0 h
    exact ⟨r, h1, .inr h2, h3⟩
def LpRel (q k r : Nat) : Prop := k ≤ q ∧ Okr r ∧ r ≤ 1087 * 2 ^ 52 + (q - k) * 2 ^ 52
theorem lp_step {q k r : Nat} (h : LpRel q k r) (h0 : 0 < k) : LpRel q (k - 1) (up r) := by
  obtain ⟨h1, h2, h3⟩ := h
  refine ⟨by omega, ?_, ?_⟩
  · unfold up Okr; split
    · exact .inl rfl
    · rename_i hr; rcases h2 with h2 | h2
      · exact absurd h2 hr
      · exact .inr (by omega)
  · unfold up; split <;> omega
theorem lp_lt {q k r : Nat} (h : LpRel q k r) (hq : q ≤ 908) (h0 : 0 < k) : r + 2 ^ 52 < 2047 * 2 ^ 52 := by
  obtain ⟨h1, h2, h3⟩ := h
  omega
theorem lp_end {q k r : Nat} (h : LpRel q k r) (hq : q ≤ 908) : r < 2047 * 2 ^ 52 := by
  obtain ⟨h1, h2, h3⟩ := h
  omega
theorem neg_fw (r : Nat) (h : r < 2047 * 2 ^ 52) : Op.negFloat .f64 (fw false r) = fw true r := by
  show r ^^^ 2 ^ 63 = 2 ^ 63 + r
  have h1 : (r ^^^ 2 ^ 63) % 2 ^ 63 = r := by rw [Nat.xor_mod_two_pow, Nat.mod_self, Nat.xor_zero]; exact Nat.mod_eq_of_lt (by omega)
  have h2 : (r ^^^ 2 ^ 63) / 2 ^ 63 = 1 := by rw [Nat.xor_div_two_pow, Nat.div_eq_of_lt (show r < 2 ^ 63 by omega)]; rfl
  have := Nat.div_add_mod (r ^^^ 2 ^ 63) (2 ^ 63)
  rw [h1, h2] at this
  omega
def NearIs (w : World) (e : Ending) (w' : World) : Prop := ∃ (s : Bool) (r : Nat), r < 2047 * 2 ^ 52 ∧ e = .returned (.float .f64 (fw s r)) ∧ Below w.heap.size w w'
set_option maxRecDepth 100000 in
set_option maxHeartbeats 8000000 in
theorem f5_any (v : Value) (z : Int) (w : World) (B : Nat) (hx : SInt B 120 w v z) : Calls Tryz.prog 5 #[v] w (NearIs w) := by
  obtain ⟨sl, l, rfl, hr, hb, hl⟩ := hx
  obtain ⟨a, c, rfl⟩ := hr.len
  have HX : Hid (∀ W, Below w.heap.size w W → SInt 0 120 W (.agg #[.bool (decide (z < 0)), .slice a l.length c]) z) := fun W h => ⟨_, l, rfl, (hr.below h (Nat.le_refl _)).le (Nat.zero_le _), hb, hl⟩
  have H11 : Hid (∀ W, Below w.heap.size w W → Calls Tryz.prog 11 #[.bool false, .slice a l.length c] W (MakesS 120 (z.natAbs : Int) W)) := fun W h => by
    have := f11_any false _ l (by omega) hb.low W 0 ((hr.below h (Nat.le_refl _)).le (Nat.zero_le _))
    rw [hb.val] at this
    refine this.mono ?_
    rintro e w' ⟨v, rfl, hs, hb'⟩
    exact ⟨v, rfl, hs.le (Nat.le_refl _) (Nat.le_trans (strip_len _) hl), hb'⟩
  have HBW := Lib.hid ((Below.refl w.heap.size w).alloc (Nat.le_refl _) (.cells #[.bool (decide (z < 0)), .slice a l.length c] 24))
  have hl2 : l.length ≤ 120 := hl
  have HKM : Hid (∀ K, LenIs z.natAbs K → K ≤ 960) := fun K h => len_max h hb rfl (by omega)
  clear hl hr hb
  generalize decide (z < 0) = d at *
  generalize l.length = L at *
  go_enter Tryz.func5, Tryz.ntmps5
  go_wp2_with fail
  go_at_call 12
  refine (f12_any 120 (by omega) _ z 0 _ (HX.out _ HBW.out)).mono ?_
  rintro e w1 ⟨K, rfl, hK, hb1⟩
  have HB1 := Lib.hid (HBW.out.trans (hb1.mono HBW.out.size))
  have X0 : w1.cell? ⟨w.heap.size, 0, none⟩ = some (.bool d) := (hb1.cell (p := ⟨w.heap.size, 0, none⟩) (by simp)).trans (by simp [go_sem])
  have X1 : w1.cell? ⟨w.heap.size, 1, none⟩ = some (.slice a L c) := (hb1.cell (p := ⟨w.heap.size, 1, none⟩) (by simp)).trans (by simp [go_sem])
  have hZ1 : w.heap.size < w1.heap.size := by have := hb1.size; simp at this; omega
  have hK2 : K ≤ 960 := HKM.out K hK
  obtain ⟨P, hP, hP2, hP3⟩ : ∃ P : Nat, max ((K : Int) - 53) 0 = (P : Int) ∧ P ≤ 907 ∧ K ≤ P + 53 := ⟨K - 53, by omega, by omega, by omega⟩
  have HM := Lib.hid (kept_lt hK hP3)
  generalize hA : z.natAbs = A at *
  clear hK hb1 hA hP3
  have HP := Lib.hid hP
  clear hP
  go_wp2_with fail
  rw [HP.out]
  go_at_call 11
  refine (H11.out w1 HB1.out).mono ?_
  rintro e w2 ⟨v2, rfl, h2, hb2⟩
  obtain ⟨d5, a5, m5, c5, rfl⟩ := h2.shape
  have HB2 := Lib.hid (HB1.out.trans (hb2.mono HB1.out.size))
  have x0 := cell_below X0 hb2
  have hZ2 : w.heap.size < w2.heap.size := Nat.lt_of_lt_of_le hZ1 hb2.size
  have HX5 := Lib.hid (Box.new h2)
  have HN5 := Lib.hid h2
  clear X0 X1 hb2 h2
  go_wp2_with fail
  go_at_call 13
  refine (f13_any 120 (by omega) _ A P (by omega) 0 _ (HN5.out.alloc0 _)).mono ?_
  rintro e w3 ⟨v3, rfl, h3, hb3⟩
  obtain ⟨d6, a6, m6, c6, rfl⟩ := h3.shape
  have hb3' := (Below.refl w2.heap.size w2).alloc (Nat.le_refl _) (.cells #[.bool d5, .slice a5 m5 c5] 24)
  have hb4 : Below w2.heap.size w2 w3 := hb3'.trans (hb3.mono hb3'.size)
  have x3 := cell_below x0 hb4
  have HB3 := Lib.hid (HB2.out.trans (hb4.mono HB2.out.size))
  have HX6 := Lib.hid (Box.new h3)
  have HX5' := Lib.hid ((HX5.out.below hb3).below ((Below.refl w3.heap.size w3).alloc (Nat.le_refl _) (.cells #[.bool d6, .slice a6 m6 c6] 24)))
  have x4 := cell_below x3 ((Below.refl w3.heap.size w3).alloc (Nat.le_refl _) (.cells #[.bool d6, .slice a6 m6 c6] 24))
  have HB4 := Lib.hid (HB3.out.alloc HB3.out.size (.cells #[.bool d6, .slice a6 m6 c6] 24))
  have hZ3 : w2.heap.size < w3.heap.size := by have := hb3.size; simp at this; omega
  have nf : w.heap.size ≠ w3.heap.size := by omega
  clear h3 hb3 hb3' hb4 x0 x3 HX5
  go_wp2_with fail
  have hlt : w.heap.size < w2.heap.size := hZ2
  generalize hW : w3.alloc (.cells #[.bool d6, .slice a6 m6 c6] 24) = W4 at *
  have hp56 : w2.heap.size < w3.heap.size := hZ3
  clear hW
  generalize w2.heap.size = p5 at *
  generalize w3.heap.size = p6 at *
  clear HN5
  obtain ⟨u5, r5, i5, j5, hs5, y50, y51, yf5⟩ := HX5'.out.open
  obtain ⟨u6, r6, i6, j6, hs6, y60, y61, yf6⟩ := HX6.out.open
  have hl5 := HX5'.out.lt
  have hl6 := HX6.out.lt
  have HS5 : Hid (∀ W, Below W4.heap.size W4 W → SInt 0 120 W (.agg #[.bool u5, .slice r5 i5 j5]) (A : Int)) := fun W h => hs5.below h (Nat.le_refl _)
  have HS6 : Hid (∀ W, Below W4.heap.size W4 W → SInt 0 120 W (.agg #[.bool u6, .slice r6 i6 j6]) ((A / 2 ^ P : Nat) : Int)) := fun W h => hs6.below h (Nat.le_refl _)
  have nf1 : p5 ≠ W4.heap.size := by omega
  have nf2 : p6 ≠ W4.heap.size := by omega
  have Hx4 := Lib.hid x4
  clear hs5 hs6 yf5 yf6 x4
  go_cut [7] (fun s7 wr => AtC1 w d p6 (A / 2 ^ P) s7 wr)
  case first =>
    go_region_held3 (fun w' => (w'.cell? ⟨p5, 0, none⟩ = some (.bool u5) ∧ w'.cell? ⟨p5, 1, none⟩ = some (.slice r5 i5 j5)) ∧ (w'.cell? ⟨p6, 0, none⟩ = some (.bool u6) ∧ w'.cell? ⟨p6, 1, none⟩ = some (.slice r6 i6 j6)))
      (first
        | (refine ⟨?_, ?_⟩; all_goals ((repeat (first | with_reducible refine two_alloc ?_ | with_reducible refine two_set ?_ (by first | exact nf1 | exact nf2 | exact ne1 | exact ne2 | exact ne3 | exact ne4 | (simp; done) | (simp; omega)))); first | with_reducible exact S6.1 | with_reducible exact S6.2 | with_reducible exact S5.1 | with_reducible exact S5.2 | with_reducible exact ⟨y50, y51⟩ | with_reducible exact ⟨y60, y61⟩))
        | go_keep)
      (first
        | (go_at_call 15; refine (f15_any 120 (by omega) _ ((A / 2 ^ P : Nat) : Int) P (by omega) 0 _ (HS6.out _ ?_)).mono ?_; (· ((repeat (first | with_reducible refine Below.drew ?_ | with_reducible refine below_drewN ?_ _ | (with_reducible refine Below.alloc ?_ (by first | omega | (simp; done) | (simp; omega)) _))); exact Below.refl _ _)); rintro e w5 ⟨v5, rfl, h5, b5⟩; have HC5 : Hid (Below W4.heap.size W4 w5) := Lib.hid (bel_chain (Nat.le_refl _) (by ((repeat (first | with_reducible refine Below.drew ?_ | with_reducible refine below_drewN ?_ _ | (with_reducible refine Below.alloc ?_ (by first | omega | (simp; done) | (simp; omega)) _))); exact Below.refl _ _)) b5); have H5 := Lib.hid (h5.le (B' := 0) (Nat.zero_le _) (Nat.le_refl _)); have hz5 : W4.heap.size ≤ w5.heap.size := HC5.out.size; have S5 : (w5.cell? ⟨p5, 0, none⟩ = some (.bool u5) ∧ w5.cell? ⟨p5, 1, none⟩ = some (.slice r5 i5 j5)) ∧ (w5.cell? ⟨p6, 0, none⟩ = some (.bool u6) ∧ w5.cell? ⟨p6, 1, none⟩ = some (.slice r6 i6 j6)) := ⟨⟨cell_below y50 HC5.out, cell_below y51 HC5.out⟩, cell_below y60 HC5.out, cell_below y61 HC5.out⟩; (try (have q7 := blk_new b5; obtain ⟨q7c, q7f, q7l⟩ := blk_cells q7.out)); (try (have q7 := blk_newd b5; obtain ⟨q7c, q7f, q7l⟩ := blk_cells q7.out)); have ne1 : p5 ≠ w5.heap.size := (by omega); have ne2 : p6 ≠ w5.heap.size := (by omega); (try clear h5); (try clear b5))
        | (go_at_call 14; refine (f14_any 633 (by omega) _ _ (A : Int) _ 0 _ ((HS5.out _ ?_).le (Nat.le_refl _) (by omega)) (H5.out.below (B := w5.heap.size) ?_ (Nat.le_refl _))).mono ?_; (· ((repeat (first | with_reducible refine Below.drew ?_ | with_reducible refine below_drewN ?_ _ | (with_reducible refine Below.alloc ?_ (by first | omega | (simp; done) | (simp; omega)) _))); exact HC5.out)); (· ((repeat (first | with_reducible refine Below.drew ?_ | with_reducible refine below_drewN ?_ _ | (with_reducible refine Below.alloc ?_ (by first | omega | (simp; done) | (simp; omega)) _))); exact Below.refl _ _)); rintro e w6 ⟨v6, rfl, h6, b6⟩; have HC6 : Hid (Below W4.heap.size W4 w6) := Lib.hid (bel_chain (Nat.le_refl _) (by ((repeat (first | with_reducible refine Below.drew ?_ | with_reducible refine below_drewN ?_ _ | (with_reducible refine Below.alloc ?_ (by first | omega | (simp; done) | (simp; omega)) _))); exact HC5.out)) b6); obtain ⟨d7, a7, m7, c7, rfl⟩ := h6.shape; have H7 := Lib.hid h6; have hz6 : w5.heap.size ≤ w6.heap.size := (by have := b6.size; (try simp at this); omega); have S6 : (w6.cell? ⟨p5, 0, none⟩ = some (.bool u5) ∧ w6.cell? ⟨p5, 1, none⟩ = some (.slice r5 i5 j5)) ∧ (w6.cell? ⟨p6, 0, none⟩ = some (.bool u6) ∧ w6.cell? ⟨p6, 1, none⟩ = some (.slice r6 i6 j6)) := ⟨⟨cell_below y50 HC6.out, cell_below y51 HC6.out⟩, cell_below y60 HC6.out, cell_below y61 HC6.out⟩; (try (have _t := q7; have q8 := blk_old b6 q7; obtain ⟨q8c, q8f, q8l⟩ := blk_cells q8.out)); (try (have q9 := blk_new b6; obtain ⟨q9c, q9f, q9l⟩ := blk_cells q9.out)); (try (have q9 := blk_newd b6; obtain ⟨q9c, q9f, q9l⟩ := blk_cells q9.out)); have ne3 : p5 ≠ w6.heap.size := (by omega); have ne4 : p6 ≠ w6.heap.size := (by omega); (try clear h6); (try clear b6)))
    all_goals
      go_wp2_with fail
      go_meet
      first
        | exact c1_new HX6.out HC6.out Hx4.out HB4.out H7.out
        | exact c1_old HX6.out HC6.out Hx4.out HB4.out H7.out q8.out (by first | omega | (simp; done) | (simp; omega)) (by omega)
        | exact c1_old HX6.out HC6.out Hx4.out HB4.out H7.out q9.out (by first | omega | (simp; done) | (simp; omega)) (by omega)
  case rest =>
    obtain ⟨p7, Y, rfl, b7, b6, xc, bw⟩ := hcut
    have hwc : w.heap.size < p6 := by omega
    clear HX HBW HKM H11 HB1 HB2 HB3 HB4 HX5' HX6 HS5 HS6 Hx4 y50 y51 y60 y61 nf1 nf2 hl5 hl6 hZ1 hZ2 hZ3 hp56 hlt nf
    have HB7 := Lib.hid b7
    have HB6 := Lib.hid b6
    have HXC := Lib.hid xc
    have HBC := Lib.hid bw
    clear b7 b6 xc bw
    go_upto_if 27 with fail
    go_cut [6] (fun s6 wr => s6 = .pointer (some ⟨p6, 0, none⟩) ∧ AtC2 w d p6 wr)
    case first =>
      by_cases hP0 : 0 < P
      · obtain ⟨u7, r7, i7, j7, hs7, y70, y71, yf7⟩ := HB7.out.open
        have HS7 : Hid (∀ W, Below wc.heap.size wc W → SInt 0 700 W (.agg #[.bool u7, .slice r7 i7 j7]) Y) := fun W h => hs7.below h (Nat.le_refl _)
        have hwp : IntKind.i64.wrap ((P : Int) - 1) = (P : Int) - 1 := IntWalk.i64_in _ (by omega)
        have h0p : 0 ≤ (P : Int) - 1 := by omega
        have h1p : (P : Int) - 1 ≤ 4096 := by omega
        clear hs7 yf7
        go_wp2_with fail
        go_region_held3 (fun w' => w'.cell? ⟨p7, 0, none⟩ = some (.bool u7) ∧ w'.cell? ⟨p7, 1, none⟩ = some (.slice r7 i7 j7))
          (first
            | with_reducible exact S9
            | with_reducible exact S8
            | go_keep)
          (first
            | (go_at_call 17; refine (f17_int _ h0p h1p _).mono ?_; rintro e w8 ⟨v8, rfl, h8, b8⟩; have HC8 : Hid (Below wc.heap.size wc w8) := Lib.hid (bel_chain (Nat.le_refl _) (by ((repeat (first | with_reducible refine Below.drew ?_ | with_reducible refine below_drewN ?_ _ | (with_reducible refine Below.alloc ?_ (by first | omega | (simp; done) | (simp; omega)) _))); exact Below.refl _ _)) b8); have H8 := Lib.hid h8; have S8 : w8.cell? ⟨p7, 0, none⟩ = some (.bool u7) ∧ w8.cell? ⟨p7, 1, none⟩ = some (.slice r7 i7 j7) := ⟨cell_below y70 HC8.out, cell_below y71 HC8.out⟩; (try clear h8); (try clear b8))
            | (go_at_call 16; refine (f16_some 700 (by omega) _ _ Y _ 0 _ (HS7.out _ HC8.out) (H8.out.le (Nat.zero_le _) (by omega))).mono ?_; rintro e w9 ⟨q, h3, rfl, b9⟩; have HC9 : Hid (Below wc.heap.size wc w9) := Lib.hid (bel_chain (Nat.le_refl _) HC8.out b9); have S9 : w9.cell? ⟨p7, 0, none⟩ = some (.bool u7) ∧ w9.cell? ⟨p7, 1, none⟩ = some (.slice r7 i7 j7) := ⟨cell_below y70 HC9.out, cell_below y71 HC9.out⟩; clear b9))
        have hB9 := HB6.out.below HC9.out
        obtain ⟨u6, r6, i6, j6, hs6, y60, y61, yf6⟩ := hB9.open
        have HS6 : Hid (∀ W, Below w9.heap.size w9 W → SInt 0 120 W (.agg #[.bool u6, .slice r6 i6 j6]) ((A / 2 ^ P : Nat) : Int)) := fun W h => hs6.below h (Nat.le_refl _)
        have H18 := Lib.hid (bit0 (by omega) hs6)
        have hl6 := hB9.lt
        clear hs6 hwp h0p h1p hB9 y70 y71 S8 S9
        rcases h3 with rfl | rfl | rfl
        · go_wp2_with fail
          go_meet
          exact ⟨rfl, c2_same HB6.out HM.out HC9.out HXC.out HBC.out⟩
        · go_wp2_with fail
          go_at_call 18
          refine H18.out.mono ?_
          rintro e w' ⟨he, rfl⟩
          rcases he with rfl | rfl
          · go_wp2_with fail
            go_meet
            exact ⟨rfl, c2_same HB6.out HM.out HC9.out HXC.out HBC.out⟩
          · go_wp2_with fail
            go_region_with (first
              | (go_at_call 20; refine (f20_one _).mono ?_; rintro e wa ⟨va, rfl, ha, ba⟩; have HCa : Hid (Below w9.heap.size w9 wa) := Lib.hid (bel_chain (Nat.le_refl _) (by ((repeat (first | with_reducible refine Below.drew ?_ | with_reducible refine below_drewN ?_ _ | (with_reducible refine Below.alloc ?_ (by first | omega | (simp; done) | (simp; omega)) _))); exact Below.refl _ _)) ba); have Ha := Lib.hid ha; have ya0 := cell_below y60 HCa.out; have ya1 := cell_below y61 HCa.out; clear ha; (try clear ba))
              | (go_at_call 19; refine (f19_any 120 (by omega) _ _ _ 1 0 _ (HS6.out _ HCa.out) (Ha.out.le (Nat.zero_le _) (by omega))).mono ?_; rintro e wb ⟨vb, rfl, hb, bb⟩; have HCb : Hid (Below w9.heap.size w9 wb) := Lib.hid (bel_chain (Nat.le_refl _) HCa.out bb); obtain ⟨d7, a7, m7, c7, rfl⟩ := hb.shape; have Hb := Lib.hid hb; have yb0 := cell_below y60 HCb.out; have yb1 := cell_below y61 HCb.out; have yb2 : ∀ i, wb.frozen? ⟨p6, i, none⟩ = false := (fun i => (HCb.out.frozen (p := ⟨p6, i, none⟩) hl6).trans (yf6 i)); have hza : p6 < wa.heap.size := Nat.lt_of_lt_of_le hl6 HCa.out.size; clear hb bb))
            all_goals
              go_wp2_with fail
              go_meet
              exact ⟨rfl, c2_more HB6.out HM.out (HC9.out.trans (HCb.out.mono HC9.out.size)) HXC.out HBC.out hwc hza Hb.out⟩
        · go_wp2_with fail
          go_region_with (first
            | (go_at_call 20; refine (f20_one _).mono ?_; rintro e wa ⟨va, rfl, ha, ba⟩; have HCa : Hid (Below w9.heap.size w9 wa) := Lib.hid (bel_chain (Nat.le_refl _) (by ((repeat (first | with_reducible refine Below.drew ?_ | with_reducible refine below_drewN ?_ _ | (with_reducible refine Below.alloc ?_ (by first | omega | (simp; done) | (simp; omega)) _))); exact Below.refl _ _)) ba); have Ha := Lib.hid ha; have ya0 := cell_below y60 HCa.out; have ya1 := cell_below y61 HCa.out; clear ha; (try clear ba))
            | (go_at_call 19; refine (f19_any 120 (by omega) _ _ _ 1 0 _ (HS6.out _ HCa.out) (Ha.out.le (Nat.zero_le _) (by omega))).mono ?_; rintro e wb ⟨vb, rfl, hb, bb⟩; have HCb : Hid (Below w9.heap.size w9 wb) := Lib.hid (bel_chain (Nat.le_refl _) HCa.out bb); obtain ⟨d7, a7, m7, c7, rfl⟩ := hb.shape; have Hb := Lib.hid hb; have yb0 := cell_below y60 HCb.out; have yb1 := cell_below y61 HCb.out; have yb2 : ∀ i, wb.frozen? ⟨p6, i, none⟩ = false := (fun i => (HCb.out.frozen (p := ⟨p6, i, none⟩) hl6).trans (yf6 i)); have hza : p6 < wa.heap.size := Nat.lt_of_lt_of_le hl6 HCa.out.size; clear hb bb))
          all_goals
            go_wp2_with fail
            go_meet
            exact ⟨rfl, c2_more HB6.out HM.out (HC9.out.trans (HCb.out.mono HC9.out.size)) HXC.out HBC.out hwc hza Hb.out⟩
      · go_wp2_with fail
        go_meet
        exact ⟨rfl, c2_same HB6.out HM.out (Below.refl _ _) HXC.out HBC.out⟩
    case rest =>
      obtain ⟨rfl, M, hM, b6, xc, bw⟩ := hcut
      clear HB7 HB6 HXC HBC HM
      have HB6 := Lib.hid b6
      have HXC := Lib.hid xc
      have HBC := Lib.hid bw
      obtain ⟨u6, r6, i6, j6, hs6, y60, y61, yf6⟩ := HB6.out.open
      have HS6 : Hid (∀ W, Below wc.heap.size wc W → SInt 0 400 W (.agg #[.bool u6, .slice r6 i6 j6]) (M : Int)) := fun W h => hs6.below h (Nat.le_refl _)
      have hl6 := HB6.out.lt
      clear b6 xc bw hs6
      go_upto_if 50 with (go_at_call 12; refine (f12_any 400 (by omega) _ (M : Int) 0 _ (HS6.out _ (Below.refl _ _))).mono ?_; rintro e wd ⟨K2, rfl, hk2, hbd⟩; rw [Int.natAbs_natCast] at hk2; have HK2 := Lib.hid hk2; have HCd := Lib.hid hbd; have z0 := cell_below y60 hbd; have z1 := cell_below y61 hbd; have zf : ∀ i, wd.frozen? ⟨p6, i, none⟩ = false := (fun i => (hbd.frozen (p := ⟨p6, i, none⟩) hl6).trans (yf6 i)); clear hk2 hbd)
      go_cut [4, 6] (fun s4 s6 wr => AtC3 w d p6 s4 s6 wr)
      case first =>
        by_cases h53 : 53 < K2
        · go_wp2_with (go_at_call 13; refine (f13_any 400 (by omega) _ M 1 (by omega) 0 _ (HS6.out _ HCd.out)).mono ?_; rintro e we ⟨ve, rfl, he, hbe⟩; obtain ⟨d7, a7, m7, c7, rfl⟩ := he.shape; have HE := Lib.hid he; have HCe : Hid (Below wc.heap.size wc we) := Lib.hid (bel_chain (Nat.le_refl _) HCd.out hbe); have t0 := cell_below z0 hbe; have t1 := cell_below z1 hbe; have tf : ∀ i, we.frozen? ⟨p6, i, none⟩ = false := (fun i => (hbe.frozen (p := ⟨p6, i, none⟩) (Nat.lt_of_lt_of_le hl6 HCd.out.size)).trans (zf i)); clear he hbe)
          go_meet
          exact c3_half HB6.out (len_few hM) hP2 HCe.out HXC.out HBC.out hwc (Nat.lt_of_lt_of_le hl6 HCd.out.size) HE.out
        · go_wp2_with fail
          go_meet
          exact c3_same HB6.out (len_small HK2.out h53) (by omega) HCd.out HXC.out HBC.out
      case rest =>
        obtain ⟨q, M2, hq, hM2, rfl, rfl, b6, xc, bw⟩ := hcut
        clear HB6 HXC HBC HS6 HK2 HCd y60 y61 z0 z1
        have HXC := Lib.hid xc
        have HBC := Lib.hid bw
        obtain ⟨u6, r6, i6, j6, hs6, y60, y61, yf6⟩ := b6.open
        have HS6 : Hid (∀ W, Below wc.heap.size wc W → SInt 0 400 W (.agg #[.bool u6, .slice r6 i6 j6]) (M2 : Int)) := fun W h => hs6.below h (Nat.le_refl _)
        have HM2 := Lib.hid hM2
        have hl6 := b6.lt
        clear b6 xc bw hs6 hM2 yf6
        go_wp2_with fail
        go_at_call 12
        refine (f12_any 400 (by omega) _ (M2 : Int) 0 _ (HS6.out _ (Below.refl _ _))).mono ?_
        rintro e wd ⟨K3, rfl, hk3, hbd⟩
        rw [Int.natAbs_natCast] at hk3
        have hK3 : K3 ≤ 53 := len_53 hk3 HM2.out
        have HCd := Lib.hid hbd
        have z0 := cell_below y60 hbd
        have z1 := cell_below y61 hbd
        have hno : ¬ (1024 < (K3 : Int) + (q : Int)) := by omega
        have hsum : IntKind.i64.wrap ((K3 : Int) + (q : Int)) = (K3 : Int) + (q : Int) := IntWalk.i64_in _ (by omega)
        clear hk3 hbd
        go_wp2_with fail
        go_at_call 22
        refine (f22_any 400 (by omega) _ (M2 : Int) 0 _ (HS6.out _ HCd.out)).mono ?_
        rintro e we ⟨x, hx64, rfl, hbe⟩
        have HXE := Lib.hid hx64
        have HCe := Lib.hid (HCd.out.trans (hbe.mono HCd.out.size))
        have xe := cell_below HXC.out HCe.out
        have HBE := Lib.hid (HBC.out.trans (HCe.out.mono HBC.out.size))
        clear hx64 hbe hno hsum z0 z1 y60 y61
        go_wp2_with fail
        obtain ⟨r0, hr0, ho0, hb0⟩ := float_any x HXE.out
        have HR0 := Lib.hid hr0
        have HL0 : Hid (LpRel q q r0) := Lib.hid ⟨Nat.le_refl _, ho0, by omega⟩
        clear hr0 ho0 hb0
        rw [HR0.out]
        go_loop [4, 9] (fun p f => ∃ k r : Nat, Hid (LpRel q k r) ∧ p = .int .i64 k ∧ f = .float .f64 (fw false r)) (fun p _ => (intOf p).toNat)
        case atStart => exact ⟨q, r0, HL0, rfl, rfl⟩
        case round =>
          obtain ⟨k, r, HL, rfl, rfl⟩ := hrel
          have hkq : k ≤ q := HL.out.1
          by_cases hk : 0 < k
          · have hT := fun W => run_float_arith (P := Tryz.prog) (w := W) .mul 31 .f64 (fw false r) 4611686018427387904 _ (twice false r HL.out.2.1 (lp_lt HL.out hq hk))
            go_wp2_with fail
            go_round
            case rel => exact ⟨k - 1, up r, Lib.hid (lp_step HL.out hk), by rw [show (k : Int) - 1 = ((k - 1 : Nat) : Int) by omega], rfl⟩
            case measure => simp [intOf]; omega
          · have hneg : ∀ W, (Op.unary .neg (.float .f64 (fw false r))).run Tryz.prog W = .ok (.float .f64 (fw true r)) W := fun W => by rw [← neg_fw r (lp_end HL.out hq)]; rfl
            go_wp2_with fail
            · go_ret
              exact ⟨true, r, lp_end HL.out hq, rfl, HBE.out⟩
            · go_ret
              exact ⟨false, r, lp_end HL.out hq, rfl, HBE.out⟩
end Go.Proofs.YtllgogkjcbdpkaaGreatDoor.Z
