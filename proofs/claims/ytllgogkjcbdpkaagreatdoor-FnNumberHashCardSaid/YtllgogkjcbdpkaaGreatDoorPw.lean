/- A quotient set to a float that is beyond all words. -/
import Derived.Test.YtllgogkjcbdpkaaGreatDoorPv
namespace Go.Proofs.YtllgogkjcbdpkaaGreatDoor.Z
open Go.RowKit

theorem big_V (s : Bool) (r : Nat) (h : ¬ Fits s r) : 2 ^ 63 * 2 ^ LP ≤ V r := by
  unfold Fits at h
  generalize 2 ^ 63 * 2 ^ LP = p at *
  unfold sg at h
  cases s
  · simp at h; omega
  · simp at h; omega
theorem big_tr (s : Bool) (r : Nat) (h : ¬ Fits s r) : 2 ^ 63 ≤ tr r := by
  unfold tr
  rw [Nat.le_div_iff_mul_le (Nat.two_pow_pos _)]
  exact big_V s r h
theorem big_pw (s : Bool) (r : Nat) (h : ¬ Fits s r) : 0 < pw r := by
  have hb := big_V s r h
  rw [V_eq] at hb
  rw [pw_lp]
  have hm := mg_lt r
  by_cases hp : LP < pl r
  · omega
  · exfalso
    have h1 : 2 ^ pl r ≤ 2 ^ LP := Nat.pow_le_pow_right (by decide) (by omega)
    have h0 := Nat.two_pow_pos LP
    have h2 : mg r * 2 ^ pl r ≤ 9007199254740992 * 2 ^ LP := Nat.mul_le_mul (Nat.le_of_lt hm) h1
    have h3 : 9007199254740992 * 2 ^ LP < 2 ^ 63 * 2 ^ LP := Nat.mul_lt_mul_of_pos_right (by decide) h0
    omega
/-- The exponent of a great float: E - 1075 is its power of two. -/
theorem big_exp (r : Nat) (h : 0 < pw r) : ¬ r < 2 ^ 52 ∧ pw r = ((r / 4503599627370496 : Nat) : Int) - 1075 := by
  unfold pw at *
  by_cases hr : r < 2 ^ 52
  · rw [if_pos hr] at h; omega
  · rw [if_neg hr] at *; exact ⟨hr, rfl⟩
theorem neg_word (s : Bool) (r : Nat) (h : r < 2047 * 2 ^ 52) (h0 : 0 < V r) : (FloatKind.f64.format.order (fw s r) 0 == some Ordering.lt) = s := by
  have ho := order_fw s false r 0 h (by decide)
  have e0 : sg false (V 0) = 0 := by decide
  rw [e0] at ho
  have ho' : FloatKind.f64.format.order (fw s r) 0 = some (compare (sg s (V r)) 0) := ho
  rw [ho']
  cases s
  · have : compare (sg false (V r)) 0 = .gt := by rw [Int.compare_eq_gt]; simp [sg]; omega
    rw [this]; rfl
  · have : compare (sg true (V r)) 0 = .lt := by rw [Int.compare_eq_lt]; simp [sg]; omega
    rw [this]; rfl
theorem mg_pos (r : Nat) (h : ¬ r < 2 ^ 52) : mg r = r % 4503599627370496 + 4503599627370496 := by unfold mg; rw [if_neg h]; omega
theorem Row.grownRat {B : Nat} {w w' : World} {v : Value} {l : List Nat} {g : Nat} {b0 b2 : Bool} {a1 a3 : Option Addr} {n1 c1 n3 c3 : Nat} (h : Row B .u64 w v l) (hg : Rat w g (.bool b0) (.slice a1 n1 c1) (.bool b2) (.slice a3 n3 c3)) (hgr : w.grownBy w' (some g)) : Row B .u64 w' v l := by
  rcases h with h | ⟨h0, g', off, c, hv, hc, hB', hg', hcell⟩
  · exact .inl h
  · have hne : g' ≠ g := fun e => by
      subst e
      have h1 := hcell 0 h0
      rw [hg.cell] at h1
      match off, h1 with
      | 0, h1 => simp at h1
      | 1, h1 => simp at h1
      | 2, h1 => simp at h1
      | 3, h1 => simp at h1
      | k + 4, h1 => simp at h1
    refine .inr ⟨h0, g', off, c, hv, hc, hB', Nat.lt_of_lt_of_le hg' hgr.size, fun j hj => ?_⟩
    rw [World.cell?_of_block (w := w) (hgr.block g' hg' (fun e => hne (by injection e)))]
    exact hcell j hj
theorem grown_via {a b c : World} {g : Nat} (h : a.grownBy b (some g)) (h2 : b.grownBy c (some g)) : a.grownBy c (some g) := ⟨h2.os.trans h.os, h2.tape.trans h.tape, h2.output.trans h.output, Nat.le_trans h.size h2.size, fun k hk hn => (h2.block k (Nat.lt_of_lt_of_le hk h.size) hn).trans (h.block k hk hn)⟩
theorem grown_bel {a b c : World} {g : Nat} (h : a.grownBy b (some g)) (h2 : Below b.heap.size b c) : a.grownBy c (some g) := grown_via h (below_grownBy h2 g)
def RatIs (g : Nat) (z : Int) (w : World) (e : Ending) (w' : World) : Prop := e = .returned (.pointer (some ⟨g, 0, none⟩)) ∧ ∃ sA sB xs, Rat w' g (.bool (decide (z < 0))) sA (.bool false) sB ∧ Row 0 .u64 w' sA xs ∧ IsW z.natAbs xs ∧ xs.length ≤ 1000 ∧ 0 < xs.length ∧ Row 0 .u64 w' sB [1] ∧ w.grownBy w' (some g)
set_option maxRecDepth 100000 in
set_option maxHeartbeats 8000000 in
theorem f69_big (g : Nat) (s : Bool) (r : Nat) (h : r < 2047 * 2 ^ 52) (hbig : ¬ Fits s r) (w : World) (hg : Rat w g (.bool false) (.slice none 0 0) (.bool false) (.slice none 0 0)) :
    Calls Tryz.prog 69 #[.pointer (some ⟨g, 0, none⟩), .float .f64 (fw s r)] w (RatIs g (sg s (tr r)) w) := by
  have hc := fun w => call10 (fw s r) w
  have hlt := fw_lt s r h
  have HE := Lib.hid (fw_exp s r h)
  have HMN := Lib.hid (fw_man s r)
  have hp := big_pw s r hbig
  obtain ⟨hr52, hpw⟩ := big_exp r hp
  have HTR := Lib.hid (whole_pos r (Int.le_of_lt hp))
  have HTB := Lib.hid (big_tr s r hbig)
  have hneg := neg_word s r h (Nat.lt_of_lt_of_le (Nat.mul_pos (by decide) (Nat.two_pow_pos _)) (big_V s r hbig))
  have HMG := Lib.hid (mg_pos r hr52)
  have hE2 : r / 4503599627370496 ≤ 2046 := by omega
  have mo := or_top (r % 4503599627370496) (Nat.mod_lt _ (by decide))
  rw [← HMG.out] at mo
  obtain ⟨E, hE⟩ : ∃ E, E = r / 4503599627370496 := ⟨_, rfl⟩
  rw [← hE] at hpw hE2 HE
  have hE1 : 1075 < E := by omega
  have HPN : Hid ((pw r).toNat = E - 1075) := by show _ = _; omega
  generalize hu : fw s r = u at *
  have m1 : bits BinOp.and IntKind.u64 ((u : Int) / 4503599627370496) 2047 = ((u / 4503599627370496 % 2048 : Nat) : Int) := by
    have := mask_u64 11 (u / 4503599627370496) (by omega) (by omega)
    rw [show (2 : Int) ^ 11 - 1 = 2047 by decide] at this
    rw [← this]; rfl
  have m2 : bits BinOp.and IntKind.u64 (u : Int) 4503599627370495 = ((u % 4503599627370496 : Nat) : Int) := by
    have := mask_u64 52 u (by omega) (by omega)
    rw [show (2 : Int) ^ 52 - 1 = 4503599627370495 by decide] at this
    rw [← this]
  rw [HE.out] at m1
  rw [HMN.out] at m2
  have q1 : ((E : Int) == 2047) = false := by rw [beq_eq_false_iff_ne]; omega
  have q2 : ((E : Int) == 0) = false := by rw [beq_eq_false_iff_ne]; omega
  have hmglt : mg r < W := by have := mg_lt r; unfold W; omega
  have hmg0 : mg r ≠ 0 := by have := HMG.out; omega
  generalize r % 4503599627370496 = q at *
  have c0 := hg.cell
  have f0 := hg.free
  have lg := hg.lt
  have HG := Lib.hid hg
  have H77 := Lib.hid (f77_rat g (mg r) hmg0 false (.bool false) (.slice none 0 0) w hg)
  have HM := Lib.hid (isW_one (mg r) hmg0 hmglt)
  have HLT := Lib.hid hlt
  clear hg h hbig hp hr52 hpw hE HE HMN hlt hu hmg0 HMG
  generalize hM : mg r = M at *
  clear hM
  have hpar : ∃ b, (bits BinOp.and IntKind.u64 (M : Int) 1 == 0) = b := ⟨_, rfl⟩
  obtain ⟨b, hb⟩ := hpar
  cases b
  all_goals
    go_enter Tryz.func69, Tryz.ntmps69
    go_wp2_with fail
    refine wp_loop_rounds 1 ?_
    rw [rounds_succ]
    go_wp2_with fail
    go_at_call 77
    refine H77.out.mono ?_
    rintro e w1 ⟨rfl, a, hal, hr1, ha1, hg1⟩
    have c1 := hr1.cell
    have f1 := hr1.free
    have R2 : Hid (Rat (w1.setCell ⟨g, 0, none⟩ (.bool s)) g (.bool s) (.slice (some ⟨a, 0, none⟩) 1 1) (.bool false) (.slice none 0 0)) := Lib.hid (Joins.block_setCell hr1 (i := 0) _)
    have A2 : Hid ((w1.setCell ⟨g, 0, none⟩ (.bool s)).heap[a]? = some (.cells #[.int .u64 M] 85 (0, 0))) := Lib.hid ((Below.heap_setCell w1 ⟨g, 0, none⟩ (.bool s) a (by show a ≠ g; omega)).trans ha1)
    have G2 : Hid (w.grownBy (w1.setCell ⟨g, 0, none⟩ (.bool s)) (some g)) := Lib.hid (hg1.setCell g 0 _)
    clear hr1 ha1 hg1
    go_wp2_with fail
    generalize w1.setCell ⟨g, 0, none⟩ (.bool s) = W2 at *
    clear c1 f1
    have l2 := R2.out.lt
    have la2 : a < W2.heap.size := (Array.getElem?_eq_some_iff.1 A2.out).1
    have H51 := Lib.hid (fun W (hb : Below W2.heap.size W2 W) (h1 : W.heap[W2.heap.size]? = some (.cells #[.int .u64 1] 85 (0, 0))) (h2 : W.heap[W2.heap.size + 1]? = some (.cells #[.bool false, .slice (some ⟨W2.heap.size, 0, none⟩) 1 1] 79 (0, 0))) =>
      f51_at g 2 (W2.heap.size + 1) 0 false false 0 (.slice (some ⟨W2.heap.size, 0, none⟩) 1 1) [1] W _ _ 109 79 ((hb.block g l2).trans R2.out) h2 (by omega) (((show Rat W g _ _ _ _ from (hb.block g l2).trans R2.out)).cell 2) (((show Rat W g _ _ _ _ from (hb.block g l2).trans R2.out)).cell 3) (by simp [World.cell?, h2]) (by simp [World.cell?, h2]) (row_cell (by simp [World.cell?, h1]) (Nat.le_refl _)) (by simp))
    go_region_held3 (fun _ => True) (trivial)
      (first
        | (go_at_call 72; refine (f72_any _).mono ?_; rintro e w' ⟨rfl, rfl⟩)
        | (go_at_call 51; refine (H51.out _ ?_ ?_ ?_).mono ?_; (· (repeat (first | with_reducible refine Below.drew ?_ | with_reducible refine Below.alloc ?_ (by first | exact Nat.le_refl _ | (simp; done)) _)); exact Below.refl _ _); (· exact (Below.heap_alloc (W2.alloc (.cells #[.int .u64 1] 85)) (.cells #[.bool false, .slice (some ⟨W2.heap.size, 0, none⟩) 1 1] 79) W2.heap.size (by simp)).trans (heap_alloc_new W2 _)); (· have := heap_alloc_new (W2.alloc (.cells #[.int .u64 1] 85)) (.cells #[.bool false, .slice (some ⟨W2.heap.size, 0, none⟩) 1 1] 79); rw [World.size_alloc] at this; exact this); intro e w4 hset; have hb3 : Below W2.heap.size W2 ((W2.alloc (.cells #[.int .u64 1] 85)).alloc (.cells #[.bool false, .slice (some ⟨W2.heap.size, 0, none⟩) 1 1] 79)) := ((Below.refl _ _).alloc (Nat.le_refl _) _).alloc (by simp) _; have hrat := hset.rat ((hb3.block g l2).trans R2.out); obtain ⟨rfl, v, hr4, hrow4, hg4⟩ := hrat; have R4 := Lib.hid hr4; have V4 := Lib.hid (hrow4.le (Nat.zero_le _)); have G4 : Hid (W2.grownBy w4 (some g)) := Lib.hid (grown_via (below_grownBy hb3 g) ⟨hg4.os, hg4.tape, hg4.output, hg4.size, hg4.block⟩); clear hset hr4 hrow4 hg4 hb3))
    obtain ⟨av, cv, hv⟩ := V4.out.len
    subst hv
    have A4 : Hid (w4.heap[a]? = some (.cells #[.int .u64 M] 85 (0, 0))) := Lib.hid ((G4.out.block a la2 (fun e => absurd (Option.some.inj e) (by omega))).trans A2.out)
    have hN : E - 1075 ≠ 0 := by omega
    have H78 := Lib.hid (fun (i : Int) (hi : i = ((E - 1075 : Nat) : Int)) => (by rw [hi]; exact f78_self g a M (E - 1075) hN (by omega) s (.bool false) _ w4.drew R4.out A4.out HM.out : Calls Tryz.prog 78 #[.pointer (some ⟨g, 0, none⟩), .pointer (some ⟨g, 0, none⟩), .int .u64 i] w4.drew (LshW g M (E - 1075) s (.bool false) (.slice av [1].length cv) w4.drew)))
    have hsh : ¬ (0 < 52 - ((E : Int) - 1023)) := by omega
    clear hN
    go_wp2_with fail
    have hw1 : IntKind.i64.wrap (-(52 - ((E : Int) - 1023))) = -(52 - ((E : Int) - 1023)) := IntWalk.i64_in _ (by omega)
    have hw2 : IntKind.u64.wrap (-(52 - ((E : Int) - 1023))) = -(52 - ((E : Int) - 1023)) := by rw [IntKind.wrap_u64]; omega
    have HW := Lib.hid (And.intro hw1 hw2)
    go_region_held3 (fun _ => True) (trivial)
      ((go_at_call 78; refine (H78.out _ (by first | omega | (simp only [HW.out.1, HW.out.2]; omega))).mono ?_; rintro e w5 ⟨rfl, v5, ys, hr5, hrow5, hnum5, hg5⟩; have R5 := Lib.hid hr5; have Y5 := Lib.hid (hrow5.le (Nat.zero_le _)); have N5 := Lib.hid hnum5; have G5 : Hid (w4.grownBy w5 (some g)) := Lib.hid ⟨hg5.os, hg5.tape, hg5.output, hg5.size, hg5.block⟩; clear hr5 hrow5 hnum5 hg5))
    clear hw1 hw2
    obtain ⟨a5, k5, h5⟩ := Y5.out.len
    subst h5
    have V5 := Lib.hid (V4.out.grownRat R4.out G5.out)
    have N5' : Hid (IsW (tr r) ys) := Lib.hid (by rw [HTR.out, HPN.out]; exact N5.out)
    have hT1 : 1 < tr r := Nat.lt_of_lt_of_le (by decide) HTB.out
    have hy0 : 0 < ys.length := List.length_pos_iff.2 (fun h => by have := (N5'.out.zero).2 h; omega)
    have hyl : ys.length ≤ 1000 := Nat.le_trans (N5.out.len_le (shl_low M (E - 1075) 1 (by have := HM.out.lt; simpa using this) (by omega))) (by omega)
    have H79 := Lib.hid (f79_one g s false 0 _ _ ys (tr r) hy0 hyl N5'.out hT1 w5 R5.out Y5.out V5.out)
    have HY := Lib.hid hy0
    have HYL := Lib.hid hyl
    have HT1 := Lib.hid hT1
    clear hy0 hyl hT1
    go_wp2_with fail
    go_at_call 79
    refine H79.out.mono ?_
    rintro e w6 ⟨rfl, r6, ra6, rb6, g6⟩
    have R6 := Lib.hid r6
    have RA6 := Lib.hid ra6
    have RB6 := Lib.hid rb6
    have G6 : Hid (w.grownBy w6 (some g)) := Lib.hid (grown_via (grown_via (grown_via G2.out G4.out) G5.out) g6)
    clear r6 ra6 rb6 g6
    go_wp2_with fail
    go_ret
    refine ⟨rfl, _, _, ys, ?_, RA6.out, ?_, HYL.out, HY.out, RB6.out, G6.out⟩
    · have e : decide (sg s (tr r) < 0) = s := by
        have := HT1.out
        unfold sg
        cases s
        · simp
        · simp; omega
      rw [e]
      exact R6.out
    · have e : (sg s (tr r)).natAbs = tr r := by unfold sg; cases s <;> simp
      rw [e]
      exact N5'.out
end Go.Proofs.YtllgogkjcbdpkaaGreatDoor.Z
