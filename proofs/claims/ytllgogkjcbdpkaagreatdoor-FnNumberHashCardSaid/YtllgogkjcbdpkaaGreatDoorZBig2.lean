/- Written by wip/tools/port2.py out of the text Big2 of seat Ytidkdjnfpepnfaa. -/
/- Walks of the package's great numbers: make, norm, setBytes. -/
import Derived.Test.YtllgogkjcbdpkaaGreatDoorZBig1
namespace Go.Proofs.YtllgogkjcbdpkaaGreatDoor.Z
open Go.RowKit

/-- A row of words of the call's own: from its block's head on. -/
def OwnW (B : Nat) (w : World) (g n c : Nat) (xs : List Nat) : Prop := w.ownsRow B 85 1 (.slice (some ⟨g, 0, none⟩) n c) n (xs.map fun x => Value.int .u64 (x : Nat))

theorem OwnW.len {B : Nat} {w : World} {g n c : Nat} {xs : List Nat} (h : OwnW B w g n c xs) : xs.length = n := by simpa using h.1
theorem OwnW.cell {B : Nat} {w : World} {g n c : Nat} {xs : List Nat} (h : OwnW B w g n c xs) (j : Nat) (hj : j < n) : w.cell? ⟨g, j, none⟩ = some (.int .u64 ((xs.getD j 0 : Nat) : Int)) := by
  have := World.ownsRow.cellAt h j (by omega)
  rw [this]
  have := h.len
  simp [show j < xs.length by omega]
theorem OwnW.free {B : Nat} {w : World} {g n c : Nat} {xs : List Nat} (h : OwnW B w g n c xs) (j : Nat) : w.frozen? ⟨g, j, none⟩ = false := World.ownsRow.frozenAt h j
theorem OwnW.low {B : Nat} {w : World} {g n c : Nat} {xs : List Nat} (h : OwnW B w g n c xs) : B ≤ g ∧ g < w.heap.size := World.ownsRow.lt h g rfl
theorem OwnW.cap {B : Nat} {w : World} {g n c : Nat} {xs : List Nat} (h : OwnW B w g n c xs) : n ≤ c := by
  rcases h.2 with ⟨h, _⟩ | ⟨g', c', cur, h, _, _, hn, _⟩
  · cases h
  · cases h; exact hn
theorem OwnW.row {B : Nat} {w : World} {g n c : Nat} {xs : List Nat} (h : OwnW B w g n c xs) : Row B .u64 w (.slice (some ⟨g, 0, none⟩) n c) xs := Row.ofOwn h
theorem OwnW.draws {B : Nat} {w : World} {g n c : Nat} {xs : List Nat} (h : OwnW B w g n c xs) (k : Nat) : OwnW B (w.drewN k) g n c xs := h
theorem OwnW.below {B : Nat} {w w' : World} {g n c : Nat} {xs : List Nat} {B' : Nat} (h : OwnW B w g n c xs) (hb : Below B' w w') (hB : w.heap.size ≤ B') : OwnW B w' g n c xs :=
  World.ownsRow.kept (row := none) h ⟨hb.os, hb.tape, hb.output, hb.size, fun k hk _ => hb.block k (by omega)⟩ (.inr (by simp [Value.ownBlock]))

def MakesOwn (n : Nat) (xs : List Nat) (w : World) (e : Ending) (w' : World) : Prop := ∃ g c, e = .returned (.slice (some ⟨g, 0, none⟩) n c) ∧ OwnW w.heap.size w' g n c xs ∧ Below w.heap.size w w'

theorem own_made (w : World) (n c : Nat) (hn : n ≤ c) (hc : c ≤ maxLen) : OwnW w.heap.size (w.alloc (.cells (madeCells #[.int .u64 0] c) 85)) w.heap.size n c (List.replicate n 0) := by
  refine ⟨by simp, .inr ⟨w.heap.size, c, _, rfl, Nat.le_refl _, heap_alloc_new w _, hn, hc, by simp [size_madeCells], ?_⟩⟩
  rw [toList_madeCells_one]
  simp [List.take_replicate]
  omega

set_option maxRecDepth 100000 in
theorem f62_zero (w : World) : Calls Tryz.prog 62 #[.slice none 0 0, .int .i64 0] w fun e w' => e = .returned (.slice none 0 0) ∧ w = w' := by
  go_enter Tryz.func62, Tryz.ntmps62
  go_wp2
  go_ret
  exact ⟨rfl, rfl⟩

set_option maxRecDepth 100000 in
theorem f62_any (n : Nat) (h1 : 1 ≤ n) (hn : n ≤ 1000000) (w : World) : Calls Tryz.prog 62 #[.slice none 0 0, .int .i64 n] w (MakesOwn n (List.replicate n 0) w) := by
  obtain ⟨i0, hi, hz0, hz1, hz2⟩ := info_parts info85
  by_cases he : n = 1
  · subst he
    have hmk := fun w : World => run_make (P := Tryz.prog) w 77 85 i0 (.int .u64 0) Tryz.underlying77 hi hz0 .i64 .i64 1 1 (by omega) (by omega) (by rw [hz2]; omega) (by omega)
    simp only [hz1] at hmk
    have HO := Lib.hid (own_made w 1 1 (by omega) (by decide))
    go_enter Tryz.func62, Tryz.ntmps62
    go_wp2
    go_ret
    exact ⟨_, _, rfl, HO.out, (Below.refl _ _).alloc (Nat.le_refl _) _⟩
  · have hmk := fun w : World => run_make (P := Tryz.prog) w 77 85 i0 (.int .u64 0) Tryz.underlying77 hi hz0 .i64 .i64 (n : Int) ((n : Int) + 4) (by omega) (by omega) (by rw [hz2]; omega) (by omega)
    simp only [hz1, show ((n : Int) + 4).toNat = n + 4 from by omega, Int.toNat_natCast, Nat.mul_one] at hmk
    have HO := Lib.hid (own_made w n (n + 4) (by omega) (by simp [maxLen]; omega))
    have hne : ((n : Int) == 1) = false := by rw [beq_eq_false_iff_ne]; omega
    clear he
    go_enter Tryz.func62, Tryz.ntmps62
    go_wp2
    go_ret
    exact ⟨_, _, rfl, HO.out, (Below.refl _ _).alloc (Nat.le_refl _) _⟩

set_option maxRecDepth 100000 in
theorem f64_nil (w : World) : Calls Tryz.prog 64 #[.slice none 0 0] w fun e w' => e = .returned (.slice none 0 0) ∧ w = w' := by
  go_enter Tryz.func64, Tryz.ntmps64
  go_wp2
  go_loop [3] (fun i => i = .int .i64 0) (fun _ => 0)
  case atStart => rfl
  case round =>
    obtain rfl := hrel
    go_wp2
    go_ret
    exact ⟨rfl, rfl⟩

set_option maxRecDepth 100000 in
theorem f64_any (B g n c : Nat) (xs : List Nat) (hn : n ≤ 1000000) (w : World) (ho : OwnW B w g n c xs) :
    Calls Tryz.prog 64 #[.slice (some ⟨g, 0, none⟩) n c] w fun e w' => e = .returned (.slice (some ⟨g, 0, none⟩) (trim xs).length c) ∧ w = w' := by
  have HO := Lib.hid ho
  have hc := ho.cap
  have hl := Lib.hid ho.len
  clear ho
  go_enter Tryz.func64, Tryz.ntmps64
  go_wp2
  go_loop [3] (fun i => ∃ k : Nat, i = .int .i64 k ∧ k ≤ n ∧ Hid (∀ j, k ≤ j → j < n → xs.getD j 0 = 0)) (fun i => (intOf i).toNat)
  case atStart => exact ⟨n, rfl, Nat.le_refl _, fun j h1 h2 => by omega⟩
  case round =>
    obtain ⟨k, rfl, hk, HZ⟩ := hrel
    by_cases h0 : k = 0
    · subst h0
      have F : Hid ((trim xs).length = 0) := by
        show _ = _
        rw [trim_take xs 0 (by omega) (fun j h1 h2 => HZ.out j h1 (by rw [← hl.out]; exact h2)) (.inl rfl)]; simp
      go_wp2
      go_ret
      exact ⟨by rw [F.out]; rfl, rfl⟩
    · have hcell := HO.out.cell (k - 1) (by omega)
      have hk1 : (0 : Int) < k := by omega
      by_cases hz : xs.getD (k - 1) 0 = 0
      · have HZ' : Hid (∀ j, k - 1 ≤ j → j < n → xs.getD j 0 = 0) := fun j h1 h2 => by
          by_cases h : j = k - 1
          · subst h; exact hz
          · exact HZ.out j (by omega) h2
        rw [hz] at hcell
        have hk2 : Hid (((k - 1 : Nat) : Int) = (k : Int) - 1) := by show _ = _; omega
        clear hz
        go_wp2
        go_round
        case rel => exact ⟨k - 1, by rw [hk2.out], by omega, HZ'⟩
        case measure => simp [intOf]; omega
      · have F : Hid ((trim xs).length = k) := by
          show _ = _
          rw [trim_take xs k (by rw [hl.out]; exact hk) (fun j h1 h2 => HZ.out j h1 (by rw [← hl.out]; exact h2)) (.inr hz)]
          simp; have := hl.out; omega
        have hne : (((xs.getD (k - 1) 0 : Nat) : Int) == 0) = false := by rw [beq_eq_false_iff_ne]; omega
        generalize xs.getD (k - 1) 0 = x at *
        clear hz
        go_wp2
        go_ret
        exact ⟨by rw [F.out]; rfl, rfl⟩
end Go.Proofs.YtllgogkjcbdpkaaGreatDoor.Z
