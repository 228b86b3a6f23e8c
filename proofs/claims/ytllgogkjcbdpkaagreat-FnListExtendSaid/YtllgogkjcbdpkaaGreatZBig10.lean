/- Written by wip/tools/port2.py out of the text Big10 of seat Ytidkdjnfpepnfaa. -/
/- Walks of the package's great numbers: the bytes of one. -/
import Derived.Test.YtllgogkjcbdpkaaGreatZBig9
namespace Go.Proofs.YtllgogkjcbdpkaaGreat.Z
open Go.RowKit

/-- A row of bytes of the call's own: from its block's head on. -/
def OwnB (B : Nat) (w : World) (g n c : Nat) (xs : List Nat) : Prop := w.ownsRow B 5 1 (.slice (some ⟨g, 0, none⟩) n c) n (xs.map fun x => Value.int .u8 (x : Nat))
theorem OwnB.len {B : Nat} {w : World} {g n c : Nat} {xs : List Nat} (h : OwnB B w g n c xs) : xs.length = n := by simpa using h.1
theorem OwnB.cell {B : Nat} {w : World} {g n c : Nat} {xs : List Nat} (h : OwnB B w g n c xs) (j : Nat) (hj : j < n) : w.cell? ⟨g, j, none⟩ = some (.int .u8 ((xs.getD j 0 : Nat) : Int)) := by
  have := World.ownsRow.cellAt h j (by omega)
  rw [this]
  have := h.len
  simp [show j < xs.length by omega]
theorem OwnB.free {B : Nat} {w : World} {g n c : Nat} {xs : List Nat} (h : OwnB B w g n c xs) (j : Nat) : w.frozen? ⟨g, j, none⟩ = false := World.ownsRow.frozenAt h j
theorem OwnB.low {B : Nat} {w : World} {g n c : Nat} {xs : List Nat} (h : OwnB B w g n c xs) : B ≤ g ∧ g < w.heap.size := World.ownsRow.lt h g rfl
theorem OwnB.row {B : Nat} {w : World} {g n c : Nat} {xs : List Nat} (h : OwnB B w g n c xs) : Row B .u8 w (.slice (some ⟨g, 0, none⟩) n c) xs := Row.ofOwn h
theorem OwnB.stored {B : Nat} {w : World} {g n c : Nat} {xs : List Nat} (h : OwnB B w g n c xs) (j y : Nat) : OwnB B (w.setCell ⟨g, j, none⟩ (.int .u8 (y : Int))) g n c (xs.set j y) := by
  have := (World.ownsRow.stored h j (.int .u8 (y : Int))).1
  unfold OwnB
  rw [List.map_set]
  exact this
theorem ownB_made (w : World) (n c : Nat) (hn : n ≤ c) (hc : c ≤ maxLen) : OwnB w.heap.size (w.alloc (.cells (madeCells #[.int .u8 0] c) 5)) w.heap.size n c (List.replicate n 0) := by
  refine ⟨by simp, .inr ⟨w.heap.size, c, _, rfl, Nat.le_refl _, heap_alloc_new w _, hn, hc, by simp [size_madeCells], ?_⟩⟩
  rw [toList_madeCells_one]
  simp [List.take_replicate]
  omega

/-- The last p of n bytes have been laid: they are the number v. -/
structure Put (n p v : Nat) (ys : List Nat) : Prop where
  len : ys.length = n
  low : ∀ d ∈ ys, d < 256
  sum : bv (ys.drop (n - p)) = v
theorem Put.start (n : Nat) : Put n 0 0 (List.replicate n 0) :=
  ⟨by simp, fun d hd => by have := (List.mem_replicate.1 hd).2; omega, by simp [bv]⟩
theorem Put.step {n p v : Nat} {ys : List Nat} (h : Put n p v ys) (b : Nat) (hb : b < 256) (i : Nat) (hi : i + p + 1 = n) : Put n (p + 1) (v + b * 256 ^ p) (ys.set i b) := by
  have hl := h.len
  refine ⟨by simpa using hl, fun d hm => ?_, ?_⟩
  · rcases List.mem_or_eq_of_mem_set hm with h1 | h1
    · exact h.low d h1
    · rw [h1]; exact hb
  · have hi' : i < (ys.set i b).length := by simp; omega
    have := h.sum
    rw [show n - p = i + 1 from by omega] at this
    rw [show n - (p + 1) = i from by omega, List.drop_eq_getElem_cons hi', bv, List.drop_set_of_lt (by omega), this]
    simp
    rw [show ys.length - (i + 1) = p from by omega]; omega
theorem word_step (V x k j : Nat) : V + W ^ k * (x % 256 ^ j) + x / 256 ^ j % 256 * 256 ^ (8 * k + j) = V + W ^ k * (x % 256 ^ (j + 1)) := by
  have h3 : (256 : Nat) ^ 8 = W := by decide
  rw [Nat.pow_succ 256 j, Nat.mod_mul, Nat.pow_add, Nat.pow_mul, h3, Nat.mul_add, ← Nat.add_assoc]
  congr 1
  rw [Nat.mul_comm, Nat.mul_assoc]
theorem word_done (xs : List Nat) (k : Nat) (hk : k < xs.length) (hx : xs.getD k 0 < W) : wv (xs.take k) + W ^ k * (xs.getD k 0 % 256 ^ 8) = wv (xs.take (k + 1)) := by
  have h3 : (256 : Nat) ^ 8 = W := by decide
  rw [h3, Nat.mod_eq_of_lt hx, List.take_succ_eq_append_getElem hk, wv_append]
  simp [wv, hk, List.length_take, Nat.min_eq_left (Nat.le_of_lt hk)]
theorem word_div (x j : Nat) : x / 256 ^ j / 256 = x / 256 ^ (j + 1) := by rw [Nat.div_div_eq_div_mul, Nat.pow_succ]

/-- What nat.bytes leaves. -/
def BytesPost (B g n c v : Nat) (w : World) (e : Ending) (w' : World) : Prop :=
  ∃ i ys, e = .returned (.int .i64 ((i : Nat) : Int)) ∧ i ≤ n ∧ OwnB B w' g n c ys ∧ (∀ d ∈ ys, d < 256) ∧ bv ys = v ∧ strip ys = ys.drop i ∧ w.grownBy w' (some g)

set_option maxRecDepth 100000 in
theorem f83_nil (B g c : Nat) (v : Value) (hv : v = .slice none 0 0 ∨ ∃ a c, v = .slice (some a) 0 c) (w : World) (ho : OwnB B w g 0 c []) : Calls Tryz.prog 83 #[v, .slice (some ⟨g, 0, none⟩) 0 c] w (BytesPost B g 0 c 0 w) := by
  have HO := Lib.hid ho
  clear ho
  rcases hv with rfl | ⟨a, c', rfl⟩
  all_goals
    go_enter Tryz.func83, Tryz.ntmps83
    go_wp2
    go_loop [4, 6, 7, 12] (fun i _ _ k => i = .int .i64 0 ∧ k = .int .i64 0) (fun _ _ _ _ => 0)
    case atStart => exact ⟨rfl, rfl⟩
    case round =>
      obtain ⟨rfl, rfl⟩ := hrel
      go_wp2
      go_loop [4] (fun i => i = .int .i64 0) (fun _ => 0)
      case atStart => rfl
      case round =>
        obtain rfl := hrel
        go_wp2
        go_ret
        exact ⟨0, [], rfl, Nat.le_refl _, HO.out, by simp, rfl, rfl, World.grownBy.refl _ _⟩

set_option maxRecDepth 100000 in
set_option maxHeartbeats 2000000 in
theorem f83_any (B g n c : Nat) (gx off cx : Nat) (xs : List Nat) (h0 : 0 < xs.length) (hl : xs.length ≤ 1000) (hlow : ∀ d ∈ xs, d < W) (hn : n = 8 * xs.length) (w : World) (ho : OwnB B w g n c (List.replicate n 0)) (hne : gx ≠ g) (hgx : gx < w.heap.size)
    (hcell : ∀ i, i < xs.length → w.cell? ⟨gx, off + i, none⟩ = some (.int .u64 ((xs.getD i 0 : Nat) : Int))) :
    Calls Tryz.prog 83 #[.slice (some ⟨gx, off, none⟩) xs.length cx, .slice (some ⟨g, 0, none⟩) n c] w (BytesPost B g n c (wv xs) w) := by
  have HC := Lib.hid hcell
  have HD := Lib.hid hlow
  have HO := Lib.hid ho
  have HN := Lib.hid hn
  clear hcell hlow ho
  have hn8 : n ≤ 8000 := by omega
  clear hn
  go_enter Tryz.func83, Tryz.ntmps83
  go_wp2
  go_loopw [4, 6, 7, 12] (fun vi _ _ vk wr => ∃ i k : Nat, vi = .int .i64 i ∧ vk = .int .i64 k ∧ k ≤ xs.length ∧ Hid (i + 8 * k = n) ∧ ∃ ys, Hid (Put n (8 * k) (wv (xs.take k)) ys) ∧ Hid (OwnB B wr g n c ys) ∧ Hid (w.grownBy wr (some g))) (fun _ _ _ vk _ => xs.length - (intOf vk).toNat)
  case atStart => exact ⟨n, 0, rfl, rfl, Nat.zero_le _, rfl, _, Put.start n, HO.out, World.grownBy.refl _ _⟩
  case round =>
    obtain ⟨i, k, rfl, rfl, hk, HI, ys, HP, HOr, HG⟩ := hrel
    by_cases hlt : k < xs.length
    · have hck := (HG.out.cell_far ⟨gx, off + k, none⟩ hgx (by simpa using hne)).trans (HC.out k hlt)
      have HX := Lib.hid (HD.out (xs.getD k 0) (by simp [hlt]))
      have HW := Lib.hid (word_done xs k hlt HX.out)
      generalize xs.getD k 0 = x at *
      go_wp2
      go_loopw [4, 6, 7] (fun vi vd vj wr => ∃ i' j d : Nat, vi = .int .i64 i' ∧ vd = .int .u64 d ∧ vj = .int .i64 j ∧ j ≤ 8 ∧ Hid (i' + (8 * k + j) = n) ∧ Hid (d = x / 256 ^ j) ∧ ∃ ys, Hid (Put n (8 * k + j) (wv (xs.take k) + W ^ k * (x % 256 ^ j)) ys) ∧ Hid (OwnB B wr g n c ys) ∧ Hid (w.grownBy wr (some g))) (fun _ _ vj _ => 8 - (intOf vj).toNat)
      case atStart => exact ⟨i, 0, x, rfl, rfl, rfl, by omega, HI.out, by show _ = _; simp, ys, by show Put _ _ _ _; simpa [Nat.mod_one] using HP.out, HOr.out, HG.out⟩
      case round =>
        clear HP HOr HG ys hck HI
        obtain ⟨m, j, d, rfl, rfl, rfl, hj, HI, HDD, ys, HP, HOr, HG⟩ := hrel
        by_cases hj8 : j = 8
        · subst hj8
          go_wp2
          go_roundw
          case rel => exact ⟨m, k + 1, rfl, by go_num, by omega, by have := HI.out; show _ = _; omega, ys, by have := HP.out; rw [HW.out] at this; show Put _ _ _ _; rwa [show 8 * (k + 1) = 8 * k + 8 from by omega], HOr, HG⟩
          case measure => simp [intOf]; omega
        · have hj' : j < 8 := by omega
          obtain ⟨q, rfl⟩ : ∃ q, m = q + 1 := ⟨m - 1, by have := HI.out; have := HN.out; omega⟩
          have hq : q < n := by have := HI.out; omega
          have zc := HOr.out.cell q hq
          have zf := HOr.out.free q
          have HO' := Lib.hid (HOr.out.stored q (d % 256))
          have HG' := Lib.hid (HG.out.setCell g q (.int .u8 ((d % 256 : Nat) : Int)))
          have HP' : Hid (Put n (8 * k + (j + 1)) (wv (xs.take k) + W ^ k * (x % 256 ^ (j + 1))) (ys.set q (d % 256))) := by
            have := HP.out.step (d % 256) (by omega) q (by have := HI.out; omega)
            rw [HDD.out, word_step] at this
            show Put _ _ _ _
            rw [HDD.out]; exact this
          have HE : Hid (d / 256 = x / 256 ^ (j + 1)) := by show _ = _; rw [HDD.out, word_div]
          have HI' : Hid (q + (8 * k + (j + 1)) = n) := by have := HI.out; show _ = _; omega
          generalize ys.getD q 0 = y0 at *
          clear HI HDD HP HG hj8
          go_wp2
          exact ⟨⟨q, j + 1, d / 256, rfl, by go_num, by go_num, by omega, HI', HE, ys.set q (d % 256), HP', by show OwnB _ _ _ _ _ _; simpa using HO'.out, by show World.grownBy _ _ _; simpa using HG'.out⟩, by simp [intOf]; omega⟩
    · obtain rfl : k = xs.length := by omega
      obtain rfl : i = 0 := by have := HI.out; have := HN.out; omega
      have HV : Hid (bv ys = wv xs) := by
        have h1 := HP.out.sum
        have h2 := HN.out
        rw [← h2, Nat.sub_self, List.take_length] at h1
        show bv ys = wv xs
        simpa using h1
      have HLow : Hid (∀ d ∈ ys, d < 256) := HP.out.low
      have HLen := Lib.hid HOr.out.len
      clear HI HP hlt
      go_wp2
      go_loop [4] (fun vi => ∃ q : Nat, vi = .int .i64 q ∧ q ≤ n ∧ Hid (∀ t, t < q → ys.getD t 0 = 0)) (fun vi => n - (intOf vi).toNat)
      case atStart => exact ⟨0, rfl, Nat.zero_le _, fun t ht => by omega⟩
      case round =>
        obtain ⟨q, rfl, hq, HZ⟩ := hrel
        by_cases hqn : q < n
        · have zc := HOr.out.cell q hqn
          have zf := HOr.out.free q
          by_cases hz : ys.getD q 0 = 0
          · have HZ' : Hid (∀ t, t < q + 1 → ys.getD t 0 = 0) := fun t ht => by
              by_cases h : t = q
              · subst h; exact hz
              · exact HZ.out t (by omega)
            rw [hz] at zc
            clear hz
            go_wp2
            go_round
            case rel => exact ⟨q + 1, by go_num, by omega, HZ'⟩
            case measure => simp [intOf]; omega
          · have hne2 : (((ys.getD q 0 : Nat) : Int) == 0) = false := by rw [beq_eq_false_iff_ne]; omega
            have HS : Hid (strip ys = ys.drop q) := strip_drop ys q HZ.out (by rw [HLen.out]; exact hqn) hz
            generalize ys.getD q 0 = y at *
            clear hz
            go_wp2
            go_ret
            exact ⟨q, ys, rfl, hq, HOr.out, HLow.out, HV.out, HS.out, HG.out⟩
        · obtain rfl : q = n := by omega
          have HS : Hid (strip ys = ys.drop q) := by
            show _ = _
            rw [strip_all ys (fun t ht => HZ.out t (by rw [← HLen.out]; exact ht)), List.drop_of_length_le (by rw [HLen.out]; exact Nat.le_refl _)]
          go_wp2
          go_ret
          exact ⟨q, ys, rfl, hq, HOr.out, HLow.out, HV.out, HS.out, HG.out⟩

/-- What Int.Bytes leaves. -/
def MakesBytes (z : Int) (w : World) (e : Ending) (w' : World) : Prop :=
  ∃ v l, e = .returned v ∧ Row w.heap.size .u8 w' v l ∧ IsB z.natAbs l ∧ l.length ≤ 8000 ∧ Below w.heap.size w w'

/-- The last numbers of a row. -/
theorem Row.drop {B : Nat} {k : IntKind} {w : World} {g off n c : Nat} {l : List Nat} (m : Nat) (hm : m < n) (h : Row B k w (.slice (some ⟨g, off, none⟩) n c) l) : Row B k w (.slice (some ⟨g, off + m, none⟩) (n - m) (c - m)) (l.drop m) := by
  rcases h with ⟨rfl, h | ⟨a, c', h⟩⟩ | ⟨h0, g', off', c', h, hc, hB, hg, hcell⟩
  · cases h
  · simp only [Value.slice.injEq, Option.some.injEq] at h
    omega
  · simp only [Value.slice.injEq, Option.some.injEq, Addr.mk.injEq, and_true] at h
    obtain ⟨⟨rfl, rfl⟩, rfl, rfl⟩ := h
    refine .inr ⟨by simp; omega, g, off + m, c - m, by simp, by simp; omega, hB, hg, fun i hi => ?_⟩
    simp at hi
    rw [Nat.add_assoc, hcell (m + i) (by omega)]
    simp

set_option maxRecDepth 100000 in
set_option maxHeartbeats 1000000 in
theorem f69_any (B g : Nat) (z : Int) (sl : Value) (xs : List Nat) (w : World) (hx : BInt B w g z sl xs) :
    Calls Tryz.prog 69 #[.pointer (some ⟨g, 0, none⟩)] w (MakesBytes z w) := by
  obtain ⟨i0, hi, hz0, hz1, hz2⟩ := info_parts info5
  have x1 := hx.abs
  have gl := hx.lt
  obtain ⟨a, k, rfl⟩ := hx.row.len
  have HX := Lib.hid hx
  have hl := hx.len
  clear hx
  have hmk := fun w : World => run_make (P := Tryz.prog) w 28 5 i0 (.int .u8 0) Tryz.underlying28 hi hz0 .i64 .i64 ((xs.length : Int) * 8) ((xs.length : Int) * 8) (by omega) (by omega) (by rw [hz2]; omega) (by omega)
  simp only [hz1, show ((xs.length : Int) * 8).toNat = 8 * xs.length from by omega, Nat.mul_one] at hmk
  have HO := Lib.hid (ownB_made w (8 * xs.length) (8 * xs.length) (Nat.le_refl _) (by simp [maxLen]; omega))
  have hb1 := Lib.hid ((Below.refl w.heap.size w).alloc (Nat.le_refl _) (.cells (madeCells #[.int .u8 0] (8 * xs.length)) 5))
  have c1 : (w.alloc (.cells (madeCells #[.int .u8 0] (8 * xs.length)) 5)).cell? ⟨g, 1, none⟩ = some (.slice a xs.length k) := (hb1.out.cell (p := ⟨g, 1, none⟩) gl).trans x1
  have HF : Hid (Calls Tryz.prog 83 #[.slice a xs.length k, .slice (some ⟨w.heap.size, 0, none⟩) (8 * xs.length) (8 * xs.length)] (w.alloc (.cells (madeCells #[.int .u8 0] (8 * xs.length)) 5)) (BytesPost w.heap.size w.heap.size (8 * xs.length) (8 * xs.length) (wv xs) (w.alloc (.cells (madeCells #[.int .u8 0] (8 * xs.length)) 5)))) := by
    rcases HX.out.row.below hb1.out (Nat.le_refl _) with ⟨rfl, hv⟩ | ⟨h0, gx, off, cx, h, hc, _, hg, hcell⟩
    · exact f83_nil w.heap.size w.heap.size 0 _ hv _ HO.out
    · rw [h]
      have hgx : gx ≠ w.heap.size := by
        intro e
        have := HX.out.row
        rcases this with ⟨rfl, _⟩ | ⟨_, g', off', c', h', _, _, hg', _⟩
        · simp at h0
        · rw [h] at h'; cases h'; omega
      exact f83_any w.heap.size w.heap.size (8 * xs.length) (8 * xs.length) gx off cx xs h0 hl HX.out.num.low rfl _ HO.out hgx hg hcell
  have HB1 := hb1
  clear hb1
  have HN : Hid (wv xs = z.natAbs) := HX.out.num.val
  have hn8 : 8 * xs.length ≤ 8000 := by omega
  generalize 8 * xs.length = n at *
  go_enter Tryz.func69, Tryz.ntmps69
  go_wp2_with fail
  refine HF.out.mono ?_
  rintro e w2 ⟨i, ys, rfl, hin, ho, hlow, hv, hs, hgr⟩
  have HB2 : Hid (Below w.heap.size w w2) := HB1.out.grown hgr (by simp) (by intro q hq; cases hq; exact Nat.le_refl _)
  have HI : Hid (IsB z.natAbs (ys.drop i)) := by
    show IsB _ _
    rw [← hs, ← HN.out, ← hv]; exact IsB.ofStrip ys hlow
  have HL : Hid (ys.length = n) := ho.len
  have HR := Lib.hid ho.row
  clear hs hgr hlow hv ho hmk HF c1 HO HB1
  by_cases h1 : i < n
  · have HR2 := Lib.hid (HR.out.drop i h1)
    have hne : ¬ n = i := by omega
    go_wp2_with fail
    go_ret
    exact ⟨_, _, rfl, by simpa using HR2.out, HI.out, by have := HL.out; simp; omega, HB2.out⟩
  · obtain rfl : i = n := by omega
    have HE : Hid (ys.drop i = []) := List.drop_of_length_le (by rw [HL.out]; exact Nat.le_refl _)
    go_wp2_with fail
    go_ret
    exact ⟨_, [], rfl, .inl ⟨rfl, .inr ⟨_, _, rfl⟩⟩, by rw [← HE.out]; exact HI.out, by simp, HB2.out⟩
end Go.Proofs.YtllgogkjcbdpkaaGreat.Z
