import Derived.Test.YtabeokminikfdaaGreatQD1
import Derived.Lib.EndianBits
set_option linter.all false
set_option maxRecDepth 100000
set_option maxHeartbeats 2000000
namespace Go.Proofs.YtabeokminikfdaaGreat.Z
open Go.RowKit
theorem be4_eq (b0 b1 b2 b3 : Nat) (h0 : b0 < 256) (h1 : b1 < 256) (h2 : b2 < 256) (h3 : b3 < 256) :
  bits BinOp.or IntKind.u32 (bits BinOp.or IntKind.u32 (bits BinOp.or IntKind.u32 (b3 : Int) ((b2 : Int) * 256)) ((b1 : Int) * 65536)) ((b0 : Int) * 16777216) = ((((b0 * 256 + b1) * 256 + b2) * 256 + b3 : Nat) : Int) := by
 rw [u32_or8 (b3 : Int) ((b2 : Int) * 256) (by omega) (by omega) (by omega) (by omega) (by omega), u32_or16 ((b3 : Int) + (b2 : Int) * 256) ((b1 : Int) * 65536) (by omega) (by omega) (by omega) (by omega) (by omega), u32_or24 ((b3 : Int) + (b2 : Int) * 256 + (b1 : Int) * 65536) ((b0 : Int) * 16777216) (by omega) (by omega) (by omega) (by omega) (by omega)]
 omega
theorem be8_eq (x y : Nat) (hx : x < 4294967296) (hy : y < 4294967296) : bits BinOp.or IntKind.u64 ((x : Int) * 4294967296) (y : Int) = ((x * 4294967296 + y : Nat) : Int) := by
 rw [bits_join .u64 64 (by decide) (fun n h1 h2 => wraps_u64 n h1 h2) 32 _ _ (by omega) (by omega) (by omega) (by omega) (by omega) (by omega)]
 omega
theorem f66_any (g off n c : Nat) (hn : 4 ≤ n) (_hc : n ≤ c) (b0 b1 b2 b3 : Nat) (h0 : b0 < 256) (h1 : b1 < 256) (h2 : b2 < 256) (h3 : b3 < 256) (w : World)
  (e0 : w.cell? ⟨g, off, none⟩ = some (.int .u8 (b0 : Int))) (e1 : w.cell? ⟨g, off + 1, none⟩ = some (.int .u8 (b1 : Int))) (e2 : w.cell? ⟨g, off + 2, none⟩ = some (.int .u8 (b2 : Int))) (e3 : w.cell? ⟨g, off + 3, none⟩ = some (.int .u8 (b3 : Int))) :
  Calls Tryz.prog 66 #[.slice (some ⟨g, off, none⟩) n c] w fun e w' => e = .returned (.int .u32 ((((b0 * 256 + b1) * 256 + b2) * 256 + b3 : Nat) : Int)) ∧ ∃ m, w' = w.drewN m := by
 have k3 : (3 : Int) < n := by omega
 have k2 : (2 : Int) < n := by omega
 have k1 : (1 : Int) < n := by omega
 have k0 : (0 : Int) < n := by omega
 go_enter Tryz.func66, Tryz.ntmps66
 go_wp2
 go_quiet (fail)
 go_wp2
 go_ret
 refine ⟨ret_int ?_, _, rfl⟩
 exact be4_eq b0 b1 b2 b3 h0 h1 h2 h3
theorem calls_val {P : Program} {f : FuncId} {args : Array Value} {w : World} {v v' : Value} {R : World → Prop} (h : Calls P f args w fun e w' => e = .returned v ∧ R w') (hv : v = v') : Calls P f args w fun e w' => e = .returned v' ∧ R w' := by
 subst hv; exact h
theorem f65_any (g off c : Nat) (hc : 8 ≤ c) (b : Nat → Nat) (hb : ∀ j, j < 8 → b j < 256) (w : World) (e : ∀ j, j < 8 → w.cell? ⟨g, off + j, none⟩ = some (.int .u8 (b j : Int))) :
  Calls Tryz.prog 65 #[.slice (some ⟨g, off, none⟩) 8 c] w fun e w' => e = .returned (.int .u64 (be8 b : Int)) ∧ ∃ m, w' = w.drewN m := by
 have e7 := e 7 (by omega)
 have c1 : ∀ W : World, W.heap = w.heap → Calls Tryz.prog 66 #[.slice (some ⟨g, off, none⟩) 8 c] W fun e w' => e = .returned (.int .u32 ((((b 0 * 256 + b 1) * 256 + b 2) * 256 + b 3 : Nat) : Int)) ∧ ∃ m, w' = W.drewN m := fun W hW =>
  f66_any g off 8 c (by omega) hc _ _ _ _ (hb 0 (by omega)) (hb 1 (by omega)) (hb 2 (by omega)) (hb 3 (by omega)) W ((World.cell?_of_block (by rw [hW])).trans (e 0 (by omega))) ((World.cell?_of_block (by rw [hW])).trans (e 1 (by omega))) ((World.cell?_of_block (by rw [hW])).trans (e 2 (by omega))) ((World.cell?_of_block (by rw [hW])).trans (e 3 (by omega)))
 have c2 : ∀ W : World, W.heap = w.heap → Calls Tryz.prog 66 #[.slice (some ⟨g, off + 4, none⟩) 4 (c - 4)] W fun e w' => e = .returned (.int .u32 ((((b 4 * 256 + b 5) * 256 + b 6) * 256 + b 7 : Nat) : Int)) ∧ ∃ m, w' = W.drewN m := fun W hW =>
  f66_any g (off + 4) 4 (c - 4) (by omega) (by omega) _ _ _ _ (hb 4 (by omega)) (hb 5 (by omega)) (hb 6 (by omega)) (hb 7 (by omega)) W ((World.cell?_of_block (by rw [hW])).trans (e 4 (by omega))) ((World.cell?_of_block (by rw [hW])).trans (e 5 (by omega))) ((World.cell?_of_block (by rw [hW])).trans (e 6 (by omega))) ((World.cell?_of_block (by rw [hW])).trans (e 7 (by omega)))
 have C1 := Lib.hid c1
 have C2 := Lib.hid c2
 have F := Lib.hid (be8_eq (((b 0 * 256 + b 1) * 256 + b 2) * 256 + b 3) (((b 4 * 256 + b 5) * 256 + b 6) * 256 + b 7) (by have := hb 0; have := hb 1; have := hb 2; have := hb 3; omega) (by have := hb 4; have := hb 5; have := hb 6; have := hb 7; omega))
 have hx : (((b 0 * 256 + b 1) * 256 + b 2) * 256 + b 3) < 4294967296 := by have := hb 0; have := hb 1; have := hb 2; have := hb 3; omega
 have hy : (((b 4 * 256 + b 5) * 256 + b 6) * 256 + b 7) < 4294967296 := by have := hb 4; have := hb 5; have := hb 6; have := hb 7; omega
 have HD : Hid (be8 b = (((b 0 * 256 + b 1) * 256 + b 2) * 256 + b 3) * 4294967296 + (((b 4 * 256 + b 5) * 256 + b 6) * 256 + b 7)) := rfl
 generalize (((b 0 * 256 + b 1) * 256 + b 2) * 256 + b 3) = x at *
 generalize (((b 4 * 256 + b 5) * 256 + b 6) * 256 + b 7) = y at *
 clear c1 c2 e hb
 have h4 : ¬ c = 4 := by omega
 go_enter Tryz.func65, Tryz.ntmps65
 go_wp2
 go_quiet ((first | (go_at_call_of 66 (Value.slice (some ⟨g, off, none⟩) 8 c); exact Calls.quiet_of (C1.out _ rfl)) | (go_at_call 66; exact Calls.quiet_of (C2.out _ rfl))))
 go_wp2
 go_ret
 exact ⟨ret_int (by rw [HD.out, ← F.out]), _, rfl⟩
theorem f63_any (g off c : Nat) (hc : 8 ≤ c) (b : Nat → Nat) (hb : ∀ j, j < 8 → b j < 256) (w : World) (e : ∀ j, j < 8 → w.cell? ⟨g, off + j, none⟩ = some (.int .u8 (b j : Int))) :
  Calls Tryz.prog 63 #[.slice (some ⟨g, off, none⟩) 8 c] w fun e w' => e = .returned (.int .u64 (be8 b : Int)) ∧ ∃ m, w' = w.drewN m := by
 have E := Lib.hid e
 have HB := Lib.hid hb
 clear e hb
 go_enter Tryz.func63, Tryz.ntmps63
 go_wp2_with (go_at_call 65; refine (f65_any g off c hc b HB.out _ E.out).mono ?_; rintro e w' ⟨rfl, n, rfl⟩)
 go_ret
 exact ⟨rfl, _, rfl⟩
end Go.Proofs.YtabeokminikfdaaGreat.Z
namespace Go.Proofs.YtabeokminikfdaaGreat.Z
open Go.RowKit
def OwnW (B : Nat) (w : World) (g n c : Nat) (xs : List Nat) : Prop := w.ownsRow B 215 1 (.slice (some ⟨g, 0, none⟩) n c) n (xs.map fun x => Value.int .u64 (x : Nat))
theorem OwnW.len {B : Nat} {w : World} {g n c : Nat} {xs : List Nat} (h : OwnW B w g n c xs) : xs.length = n := by simpa using h.1
theorem OwnW.cell {B : Nat} {w : World} {g n c : Nat} {xs : List Nat} (h : OwnW B w g n c xs) (j : Nat) (hj : j < n) : w.cell? ⟨g, j, none⟩ = some (.int .u64 ((xs.getD j 0 : Nat) : Int)) := by
 have := World.ownsRow.cellAt h j (by omega)
 rw [this]
 have := h.len
 simp [show j < xs.length by omega]
theorem OwnW.free {B : Nat} {w : World} {g n c : Nat} {xs : List Nat} (h : OwnW B w g n c xs) (j : Nat) : w.frozen? ⟨g, j, none⟩ = false := World.ownsRow.frozenAt h j
theorem OwnW.low {B : Nat} {w : World} {g n c : Nat} {xs : List Nat} (h : OwnW B w g n c xs) : B ≤ g ∧ g < w.heap.size := World.ownsRow.lt h g rfl
theorem OwnW.cap {B : Nat} {w : World} {g n c : Nat} {xs : List Nat} (h : OwnW B w g n c xs) : n ≤ c := by
 rcases h.2 with ⟨h, _⟩ | ⟨g', c', cur, h, _, _, hn, _⟩
 ·cases h
 ·cases h; exact hn
theorem OwnW.row {B : Nat} {w : World} {g n c : Nat} {xs : List Nat} (h : OwnW B w g n c xs) : Row B .u64 w (.slice (some ⟨g, 0, none⟩) n c) xs := Row.ofOwn h
theorem OwnW.draws {B : Nat} {w : World} {g n c : Nat} {xs : List Nat} (h : OwnW B w g n c xs) (k : Nat) : OwnW B (w.drewN k) g n c xs := h
theorem OwnW.below {B : Nat} {w w' : World} {g n c : Nat} {xs : List Nat} {B' : Nat} (h : OwnW B w g n c xs) (hb : Below B' w w') (hB : w.heap.size ≤ B') : OwnW B w' g n c xs :=
 World.ownsRow.kept (row := none) h ⟨hb.os, hb.tape, hb.output, hb.size, fun k hk _ => hb.block k (by omega)⟩ (.inr (by simp [Value.ownBlock]))
def MakesOwn (n : Nat) (xs : List Nat) (w : World) (e : Ending) (w' : World) : Prop := ∃ g c, e = .returned (.slice (some ⟨g, 0, none⟩) n c) ∧ OwnW w.heap.size w' g n c xs ∧ Below w.heap.size w w'
theorem own_made (w : World) (n c : Nat) (hn : n ≤ c) (hc : c ≤ maxLen) : OwnW w.heap.size (w.alloc (.cells (madeCells #[.int .u64 0] c) 215)) w.heap.size n c (List.replicate n 0) := by
 refine ⟨by simp, .inr ⟨w.heap.size, c, _, rfl, Nat.le_refl _, heap_alloc_new w _, hn, hc, by simp [size_madeCells], ?_⟩⟩
 rw [toList_madeCells_one]
 simp [List.take_replicate]
 omega
theorem f62_zero (w : World) : Calls Tryz.prog 62 #[.slice none 0 0, .int .i64 0] w fun e w' => e = .returned (.slice none 0 0) ∧ w = w' := by
 go_enter Tryz.func62, Tryz.ntmps62
 go_wp2
 go_ret
 exact ⟨rfl, rfl⟩
theorem f62_any (n : Nat) (h1 : 1 ≤ n) (hn : n ≤ 1000000) (w : World) : Calls Tryz.prog 62 #[.slice none 0 0, .int .i64 n] w (MakesOwn n (List.replicate n 0) w) := by
 obtain ⟨i0, hi, hz0, hz1, hz2⟩ := info_parts info215
 by_cases he : n = 1
 ·subst he
  have hmk := fun w : World => run_make (P := Tryz.prog) w 195 215 i0 (.int .u64 0) Tryz.underlying195 hi hz0 .i64 .i64 1 1 (by omega) (by omega) (by rw [hz2]; omega) (by omega)
  simp only [hz1] at hmk
  have HO := Lib.hid (own_made w 1 1 (by omega) (by decide))
  go_enter Tryz.func62, Tryz.ntmps62
  go_wp2
  go_ret
  exact ⟨_, _, rfl, HO.out, (Below.refl _ _).alloc (Nat.le_refl _) _⟩
 ·have hmk := fun w : World => run_make (P := Tryz.prog) w 195 215 i0 (.int .u64 0) Tryz.underlying195 hi hz0 .i64 .i64 (n : Int) ((n : Int) + 4) (by omega) (by omega) (by rw [hz2]; omega) (by omega)
  simp only [hz1, show ((n : Int) + 4).toNat = n + 4 from by omega, Int.toNat_natCast, Nat.mul_one] at hmk
  have HO := Lib.hid (own_made w n (n + 4) (by omega) (by simp [maxLen]; omega))
  have hne : ((n : Int) == 1) = false := by rw [beq_eq_false_iff_ne]; omega
  clear he
  go_enter Tryz.func62, Tryz.ntmps62
  go_wp2
  go_ret
  exact ⟨_, _, rfl, HO.out, (Below.refl _ _).alloc (Nat.le_refl _) _⟩
theorem f64_nil (w : World) : Calls Tryz.prog 64 #[.slice none 0 0] w fun e w' => e = .returned (.slice none 0 0) ∧ w = w' := by
 go_enter Tryz.func64, Tryz.ntmps64
 go_wp2
 go_loop [3] (fun i => i = .int .i64 0) (fun _ => 0)
 case atStart => rfl
 case round =>
  obtain rfl := hrel
  go_wp2
  go_ret
  exact ⟨rfl, rfl⟩
theorem f64_any (B g n c : Nat) (xs : List Nat) (hn : n ≤ 1000000) (w : World) (ho : OwnW B w g n c xs) :
  Calls Tryz.prog 64 #[.slice (some ⟨g, 0, none⟩) n c] w fun e w' => e = .returned (.slice (some ⟨g, 0, none⟩) (trim xs).length c) ∧ w = w' := by
 have HO := Lib.hid ho
 have hc := ho.cap
 have hl := Lib.hid ho.len
 clear ho
 go_enter Tryz.func64, Tryz.ntmps64
 go_wp2
 go_loop [3] (fun i => ∃ k : Nat, i = .int .i64 k ∧ k ≤ n ∧ Hid (∀ j, k ≤ j → j < n → xs.getD j 0 = 0)) (fun i => (intOf i).toNat)
 case atStart => exact ⟨n, rfl, Nat.le_refl _, fun j h1 h2 => by omega⟩
 case round =>
  obtain ⟨k, rfl, hk, HZ⟩ := hrel
  by_cases h0 : k = 0
  ·subst h0
   have F : Hid ((trim xs).length = 0) := by
    show _ = _
    rw [trim_take xs 0 (by omega) (fun j h1 h2 => HZ.out j h1 (by rw [← hl.out]; exact h2)) (.inl rfl)]; simp
   go_wp2
   go_ret
   exact ⟨by rw [F.out]; rfl, rfl⟩
  ·have hcell := HO.out.cell (k - 1) (by omega)
   have hk1 : (0 : Int) < k := by omega
   by_cases hz : xs.getD (k - 1) 0 = 0
   ·have HZ' : Hid (∀ j, k - 1 ≤ j → j < n → xs.getD j 0 = 0) := fun j h1 h2 => by
     by_cases h : j = k - 1
     ·subst h; exact hz
     ·exact HZ.out j (by omega) h2
    rw [hz] at hcell
    have hk2 : Hid (((k - 1 : Nat) : Int) = (k : Int) - 1) := by show _ = _; omega
    clear hz
    go_wp2
    go_round
    case rel => exact ⟨k - 1, by rw [hk2.out], by omega, HZ'⟩
    case measure => simp [intOf]; omega
   ·have F : Hid ((trim xs).length = k) := by
     show _ = _
     rw [trim_take xs k (by rw [hl.out]; exact hk) (fun j h1 h2 => HZ.out j h1 (by rw [← hl.out]; exact h2)) (.inr hz)]
     simp; have := hl.out; omega
    have hne : (((xs.getD (k - 1) 0 : Nat) : Int) == 0) = false := by rw [beq_eq_false_iff_ne]; omega
    generalize xs.getD (k - 1) 0 = x at *
    clear hz
    go_wp2
    go_ret
    exact ⟨by rw [F.out]; rfl, rfl⟩
end Go.Proofs.YtabeokminikfdaaGreat.Z
namespace Go.Proofs.YtabeokminikfdaaGreat.Z
open Go.RowKit
theorem f62_int (z : Int) (h1 : 1 ≤ z) (hn : z ≤ 1000000) (w : World) : Calls Tryz.prog 62 #[.slice none 0 0, .int .i64 z] w (MakesOwn z.toNat (List.replicate z.toNat 0) w) := by
 obtain ⟨n, rfl⟩ := Int.eq_ofNat_of_zero_le (show 0 ≤ z by omega)
 exact f62_any n (by omega) (by omega) w
theorem OwnW.stored {B : Nat} {w : World} {g n c : Nat} {xs : List Nat} (h : OwnW B w g n c xs) (j y : Nat) : OwnW B (w.setCell ⟨g, j, none⟩ (.int .u64 (y : Int))) g n c (xs.set j y) := by
 have := (World.ownsRow.stored h j (.int .u64 (y : Int))).1
 unfold OwnW
 rw [List.map_set]
 exact this
theorem or_step (t M : Nat) (ht : t < 8) (hM : M = 256 ^ t) (D b : Nat) (hD : D < 256 ^ t) (hb : b < 256) (x : Int) (hx : x = (b : Int) * (M : Int)) : bits BinOp.or IntKind.u64 (D : Int) x = ((D + b * 256 ^ t : Nat) : Int) := by
 subst hM
 subst hx
 have e : (256 : Nat) ^ t = 2 ^ (8 * t) := by rw [Nat.pow_mul]
 have hp : (2 : Nat) ^ (8 * t) ≤ 2 ^ 56 := Nat.pow_le_pow_right (by decide) (by omega)
 have hbm : b * 2 ^ (8 * t) ≤ 255 * 2 ^ (8 * t) := Nat.mul_le_mul_right _ (by omega)
 rw [e] at hD ⊢
 rw [← Int.natCast_mul, (bits_nat .u64 64 (by decide) (fun n h1 h2 => wraps_u64 n h1 h2) D (b * 2 ^ (8 * t)) (by omega) (by omega)).2]
 congr 1
 rw [Nat.or_comm, Nat.mul_comm, ← Nat.two_pow_add_eq_or_of_lt hD]
 omega
theorem step_low (t D b : Nat) (hD : D < 256 ^ t) (hb : b < 256) : D + b * 256 ^ t < 256 ^ (t + 1) := by
 have : b * 256 ^ t ≤ 255 * 256 ^ t := Nat.mul_le_mul_right _ (by omega)
 rw [Nat.pow_succ]; omega
theorem step_val {A Q q t D b : Nat} (h1 : A = Q * 256 ^ t + D) (h2 : Q = q * 256 + b) : A = q * 256 ^ (t + 1) + (D + b * 256 ^ t) := by
 subst h2
 rw [h1, Nat.pow_succ, Nat.add_mul, Nat.mul_comm (256 ^ t) 256, ← Nat.mul_assoc]; omega
def MakesNat (n : Nat) (w : World) (e : Ending) (w' : World) : Prop := ∃ v xs, e = .returned v ∧ Row w.heap.size .u64 w' v xs ∧ IsW n xs ∧ Below w.heap.size w w'
theorem f59_nil (w : World) (v : Value) (hv : v = .slice none 0 0 ∨ ∃ a c, v = .slice (some a) 0 c) : Calls Tryz.prog 59 #[.slice none 0 0, v] w (MakesNat 0 w) := by
 rcases hv with rfl | ⟨a, c, rfl⟩
 all_goals
  go_enter Tryz.func59, Tryz.ntmps59
  go_wp2_with (go_at_call 62; refine (f62_zero _).mono ?_; rintro e w' ⟨rfl, rfl⟩)
  go_loop [5, 6] (fun i _ => i = .int .i64 0) (fun _ _ => 0)
  case atStart => rfl
  case round =>
   obtain rfl := hrel
   go_wp2_with (go_at_call 64; refine (f64_nil _).mono ?_; rintro e w' ⟨rfl, rfl⟩)
   go_ret
   exact ⟨_, [], rfl, .inl ⟨rfl, .inl rfl⟩, ⟨rfl, by simp, rfl⟩, Below.refl _ _⟩
theorem f59_any (gb off cb : Nat) (l : List Nat) (h0 : 0 < l.length) (hl : l.length ≤ 4000) (hcb : l.length ≤ cb) (hd : ∀ d ∈ l, d < 256) (w : World) (hgb : gb < w.heap.size)
  (hcell : ∀ i, i < l.length → w.cell? ⟨gb, off + i, none⟩ = some (.int .u8 ((l.getD i 0 : Nat) : Int))) :
  Calls Tryz.prog 59 #[.slice none 0 0, .slice (some ⟨gb, off, none⟩) l.length cb] w (MakesNat (bv l) w) := by
 have HC := Lib.hid hcell
 have HD := Lib.hid hd
 clear hcell hd
 go_enter Tryz.func59, Tryz.ntmps59
 go_wp2_with fail
 refine (f62_int _ (by omega) (by omega) _).mono ?_
 rintro e w1 ⟨g, c, rfl, ho, hb⟩
 have hnn : 8 * (((l.length : Int) + 8 - 1) / 8).toNat ≤ l.length + 7 ∧ l.length ≤ 8 * (((l.length : Int) + 8 - 1) / 8).toNat := by omega
 obtain ⟨hn1, hn2⟩ := hnn
 generalize (((l.length : Int) + 8 - 1) / 8).toNat = n at *
 have HO := Lib.hid ho
 have HB := Lib.hid hb
 obtain ⟨hg1, hg2⟩ := ho.low
 have hnc := ho.cap
 clear ho
 have HC1 : Hid (∀ i, i < l.length → w1.cell? ⟨gb, off + i, none⟩ = some (.int .u8 ((l.getD i 0 : Nat) : Int))) := fun i hi => (hb.cell (p := ⟨gb, off + i, none⟩) hgb).trans (HC.out i hi)
 clear hb HC
 go_wp2_with fail
 go_loopw [5, 6] (fun vi vk wr => ∃ i k : Nat, vi = .int .i64 i ∧ vk = .int .i64 k ∧ i + 8 * k = l.length ∧ ∃ xs, Hid (Laid l n k xs) ∧ Hid (OwnW w.heap.size wr g n c xs) ∧ Hid (Below w.heap.size w wr) ∧ w1.heap.size ≤ wr.heap.size) (fun vi _ _ => (intOf vi).toNat)
 case atStart => exact ⟨l.length, 0, rfl, rfl, by omega, _, Laid.start l n, HO.out, HB.out, Nat.le_refl _⟩
 case round =>
  obtain ⟨i, k, rfl, rfl, hik, xs, HL, HOr, HBr, hsz⟩ := hrel
  have HCr : Hid (∀ i, i < l.length → wr.cell? ⟨gb, off + i, none⟩ = some (.int .u8 ((l.getD i 0 : Nat) : Int))) := fun i hi => (HBr.out.cell (p := ⟨gb, off + i, none⟩) hgb).trans (((HB.out.cell (p := ⟨gb, off + i, none⟩) hgb).symm).trans (HC1.out i hi))
  by_cases h8 : 8 ≤ i
  ·obtain ⟨j, rfl⟩ : ∃ j, i = j + 8 := ⟨i - 8, by omega⟩
   have hk : k < n := by omega
   have hzc := HOr.out.cell k hk
   have hzf := HOr.out.free k
   have hcj : ¬ cb = j := by omega
   have HL' := Lib.hid (HL.out.step HD.out hk j (by omega))
   have HO' := Lib.hid (HOr.out.stored k (be8 fun t => l.getD (j + t) 0))
   have HF := Lib.hid (f63_any gb (off + j) (cb - j) (by omega) (fun t => l.getD (j + t) 0) (fun t ht => by
    have hi : j + t < l.length := by omega
    simp [hi]; exact HD.out _ (List.getElem_mem hi)) wr (fun t ht => by rw [Nat.add_assoc]; exact HCr.out (j + t) (by omega)))
   generalize (be8 fun t => l.getD (j + t) 0) = y at *
   generalize xs.getD k 0 = x0 at *
   go_wp2_with fail
   refine HF.out.mono ?_
   rintro e w2 ⟨rfl, m, rfl⟩
   go_wp2_with fail
   go_roundw
   case rel => exact ⟨j, k + 1, rfl, by go_num, by omega, _, HL', HO'.out.draws m, below_drewN (HBr.out.setCell (p := ⟨g, k, none⟩) hg1 _) m, by simpa using hsz⟩
   case measure => simp [intOf]; omega
  ·have h8' : ¬ (8 : Int) ≤ i := by omega
   by_cases hi0 : i = 0
   ·subst hi0
    have hk : k = n := by omega
    have HV : Hid (wv xs = bv l) := HL.out.done (by omega) hk
    have HN := Lib.hid (f64_any w.heap.size g n c xs (by omega) wr HOr.out)
    go_wp2_with fail
    refine HN.out.mono ?_
    rintro e w2 ⟨rfl, rfl⟩
    go_wp2_with fail
    go_ret
    refine ⟨_, trim xs, rfl, ?_, ?_, HBr.out⟩
    ·have := Row.take (trim xs).length (by rw [← HOr.out.len]; exact trim_len xs) HOr.out.row
     rwa [trim_take_len] at this
    ·rw [← HV.out]; exact IsW.ofTrim xs HL.out.low
   ·have hk : k + 1 = n := by omega
    have hip : (0 : Int) < i := by omega
    go_wp2_with fail
    go_loop [5, 7, 8] (fun vi vd vs => ∃ (j t D : Nat) (S : Int), vi = .int .i64 j ∧ vd = .int .u64 (D : Int) ∧ vs = .int .u64 S ∧ j + t = i ∧ S = 8 * (t : Int) ∧ D < 256 ^ t ∧ Hid (bv (l.take i) = bv (l.take j) * 256 ^ t + D)) (fun vi _ _ => (intOf vi).toNat)
    case atStart => exact ⟨i, 0, 0, 0, rfl, rfl, rfl, by omega, by omega, by decide, by show _ = _; simp⟩
    case round =>
     obtain ⟨j, t, D, S, rfl, rfl, rfl, hjt, hS, hD, HV⟩ := hrel
     by_cases hj0 : j = 0
     ·subst hj0
      have hDe : Hid (bv (l.take i) = D) := by show _ = _; rw [HV.out]; simp [bv]
      have hti : t = i := by omega
      have hDW : D < W := by
       have : 256 ^ t ≤ 256 ^ 8 := Nat.pow_le_pow_right (by decide) (by omega)
       unfold W; omega
      have HLast : Hid (wv (xs.set k D) = bv l ∧ ∀ d ∈ xs.set k D, d < W) := by
       have := HL.out.last hk i (by omega) (by rw [hDe.out]; exact hDW)
       rwa [hDe.out] at this
      have HO' := Lib.hid (HOr.out.stored k D)
      have hzc := HOr.out.cell k (by omega)
      have hzf := HOr.out.free k
      have HB' : Hid (Below w.heap.size w (wr.setCell ⟨g, k, none⟩ (.int .u64 (D : Int)))) := HBr.out.setCell (p := ⟨g, k, none⟩) hg1 _
      have HN := Lib.hid (f64_any w.heap.size g n c (xs.set k D) (by omega) _ HO'.out)
      have hnk : Hid (n = k + 1) := hk.symm
      obtain rfl : k = n - 1 := by omega
      clear hjt hS hD hti hDW hk
      generalize xs.getD (n - 1) 0 = x0 at *
      go_wp2_with fail
      refine HN.out.mono ?_
      rintro e w2 ⟨rfl, rfl⟩
      go_wp2_with fail
      go_ret
      refine ⟨_, trim (xs.set (n - 1) D), rfl, ?_, ?_, HB'.out⟩
      ·have := Row.take (trim (xs.set (n - 1) D)).length (Nat.le_trans (trim_len _) (Nat.le_of_eq HO'.out.len)) HO'.out.row
       rwa [trim_take_len] at this
      ·rw [← HLast.out.1]; exact IsW.ofTrim _ HLast.out.2
     ·obtain ⟨q, rfl⟩ : ∃ q, j = q + 1 := ⟨j - 1, by omega⟩
      have hbl : l.getD q 0 < 256 := by
       have hi : q < l.length := by omega
       simp [hi]; exact HD.out _ (List.getElem_mem hi)
      have hbc := HCr.out q (by omega)
      have HV' := Lib.hid (bv_take_succ l q (by omega))
      generalize l.getD q 0 = b at *
      have hqi : q < i := by omega
      have HJ := Lib.hid hjt
      have ht : t = 0 ∨ t = 1 ∨ t = 2 ∨ t = 3 ∨ t = 4 ∨ t = 5 ∨ t = 6 := by omega
      clear hjt
      rcases ht with rfl | rfl | rfl | rfl | rfl | rfl | rfl
      ·obtain rfl : S = 0 := by omega
       clear hS
       have HB2 := Lib.hid hD
       clear hD
       go_wp2_with fail
       refine ⟨⟨q, 1, D + b * 256 ^ 0, 8, rfl, ?_, rfl, by have := HJ.out; omega, by omega, step_low 0 D b HB2.out hbl, step_val HV.out HV'.out⟩, by simp [intOf]⟩
       exact congrArg (Value.int .u64) (or_step 0 1 (by omega) (by decide) D b HB2.out hbl _ (by simp))
      ·obtain rfl : S = 8 := by omega
       clear hS
       have HB2 := Lib.hid hD
       clear hD
       go_wp2_with fail
       refine ⟨⟨q, 2, D + b * 256 ^ 1, 16, rfl, ?_, rfl, by have := HJ.out; omega, by omega, step_low 1 D b HB2.out hbl, step_val HV.out HV'.out⟩, by simp [intOf]⟩
       exact congrArg (Value.int .u64) (or_step 1 256 (by omega) (by decide) D b HB2.out hbl _ (by rfl))
      ·obtain rfl : S = 16 := by omega
       clear hS
       have HB2 := Lib.hid hD
       clear hD
       go_wp2_with fail
       refine ⟨⟨q, 3, D + b * 256 ^ 2, 24, rfl, ?_, rfl, by have := HJ.out; omega, by omega, step_low 2 D b HB2.out hbl, step_val HV.out HV'.out⟩, by simp [intOf]⟩
       exact congrArg (Value.int .u64) (or_step 2 65536 (by omega) (by decide) D b HB2.out hbl _ (by rfl))
      ·obtain rfl : S = 24 := by omega
       clear hS
       have HB2 := Lib.hid hD
       clear hD
       go_wp2_with fail
       refine ⟨⟨q, 4, D + b * 256 ^ 3, 32, rfl, ?_, rfl, by have := HJ.out; omega, by omega, step_low 3 D b HB2.out hbl, step_val HV.out HV'.out⟩, by simp [intOf]⟩
       exact congrArg (Value.int .u64) (or_step 3 16777216 (by omega) (by decide) D b HB2.out hbl _ (by rfl))
      ·obtain rfl : S = 32 := by omega
       clear hS
       have HB2 := Lib.hid hD
       clear hD
       go_wp2_with fail
       refine ⟨⟨q, 5, D + b * 256 ^ 4, 40, rfl, ?_, rfl, by have := HJ.out; omega, by omega, step_low 4 D b HB2.out hbl, step_val HV.out HV'.out⟩, by simp [intOf]⟩
       exact congrArg (Value.int .u64) (or_step 4 4294967296 (by omega) (by decide) D b HB2.out hbl _ (by rfl))
      ·obtain rfl : S = 40 := by omega
       clear hS
       have HB2 := Lib.hid hD
       clear hD
       go_wp2_with fail
       refine ⟨⟨q, 6, D + b * 256 ^ 5, 48, rfl, ?_, rfl, by have := HJ.out; omega, by omega, step_low 5 D b HB2.out hbl, step_val HV.out HV'.out⟩, by simp [intOf]⟩
       exact congrArg (Value.int .u64) (or_step 5 1099511627776 (by omega) (by decide) D b HB2.out hbl _ (by rfl))
      ·obtain rfl : S = 48 := by omega
       clear hS
       have HB2 := Lib.hid hD
       clear hD
       go_wp2_with fail
       refine ⟨⟨q, 7, D + b * 256 ^ 6, 56, rfl, ?_, rfl, by have := HJ.out; omega, by omega, step_low 6 D b HB2.out hbl, step_val HV.out HV'.out⟩, by simp [intOf]⟩
       exact congrArg (Value.int .u64) (or_step 6 281474976710656 (by omega) (by decide) D b HB2.out hbl _ (by rfl))
end Go.Proofs.YtabeokminikfdaaGreat.Z
