/- Written by wip/tools/port2.py out of the text Sp4 of seat Ytidkdjnfpepnfaa. -/
/- Walks of the reference's magnitudes: digit, sum; the plain laws behind them. -/
import Derived.Test.YtllgogkjcbdpkaaGreatZIbWalk
namespace Go.Proofs.YtllgogkjcbdpkaaGreat.Z
open Go.RowKit

/-- The digit at a place, the lowest place first. -/
def dg (l : List Nat) (i : Nat) : Nat := if i < l.length then l.getD (l.length - 1 - i) 0 else 0
/-- The number of the lowest p digits. -/
def lo (l : List Nat) (p : Nat) : Nat := bv (l.drop (l.length - p))
theorem lo_zero (l : List Nat) : lo l 0 = 0 := by simp [lo, bv]
theorem lo_all (l : List Nat) (p : Nat) (h : l.length ≤ p) : lo l p = bv l := by simp [lo, show l.length - p = 0 from by omega]
theorem lo_succ (l : List Nat) (p : Nat) : lo l (p + 1) = lo l p + dg l p * 256 ^ p := by
  by_cases h : p < l.length
  · have h1 : l.length - (p + 1) < l.length := by omega
    have h2 : l.length - (p + 1) = l.length - 1 - p := by omega
    have h3 : l.length - 1 - p < l.length := by omega
    have h4 : l.length - 1 - p + 1 = l.length - p := by omega
    simp only [lo, dg, h, if_true]
    rw [h2, List.drop_eq_getElem_cons h3, bv, h4]
    simp [h3]
    rw [show l.length - (l.length - p) = p from by omega]; omega
  · rw [lo_all l (p + 1) (by omega), lo_all l p (by omega)]
    simp [dg, h]
theorem dg_lt (l : List Nat) (hd : ∀ d ∈ l, d < 256) (i : Nat) : dg l i < 256 := by
  unfold dg
  split
  · have h3 : l.length - 1 - i < l.length := by omega
    simp [h3]; exact hd _ (List.getElem_mem h3)
  · omega

set_option maxRecDepth 100000 in
theorem f106_any (v : Value) (l : List Nat) (hl : l.length ≤ 2147483647) (hd : ∀ d ∈ l, d < 256) (B i : Nat) (w : World) (hr : Row B .u8 w v l) :
    Calls Tryz.prog 106 #[v, .int .i64 i] w fun e w' => e = .returned (.int .i64 (dg l i : Nat)) ∧ w = w' := by
  by_cases hi : i < l.length
  · rcases hr with ⟨rfl, _⟩ | ⟨h0, g, off, c, rfl, hc, hB, hg, hcell⟩
    · simp at hi
    · have e1 := hcell (l.length - 1 - i) (by omega)
      have e2 : Hid (dg l i = l.getD (l.length - 1 - i) 0) := by show _ = _; simp [dg, hi]
      have e3 : ((l.length : Int) - 1 - i) = ((l.length - 1 - i : Nat) : Int) := by omega
      have e4 : l.length - 1 - i < l.length := by omega
      have hi' : (i : Int) < l.length := by omega
      have hx : l.getD (l.length - 1 - i) 0 < 256 := by simp [e4]; exact hd _ (List.getElem_mem e4)
      clear hcell hd
      generalize l.getD (l.length - 1 - i) 0 = x at *
      generalize l.length - 1 - i = q at *
      go_enter Tryz.func106, Tryz.ntmps106
      go_wp2
      go_ret
      exact ⟨by rw [e2.out]; rfl, rfl⟩
  · have e2 : Hid (dg l i = 0) := by show _ = _; simp [dg, hi]
    obtain ⟨a, c, rfl⟩ := hr.len
    have hi' : ¬ (i : Int) < l.length := by omega
    clear hr
    go_enter Tryz.func106, Tryz.ntmps106
    go_wp2
    go_ret
    exact ⟨by rw [e2.out]; rfl, rfl⟩


/-- What makes a magnitude leaves. -/
def MakesMag (n : Nat) (w : World) (e : Ending) (w' : World) : Prop :=
  ∃ v l, e = .returned v ∧ Row w.heap.size .u8 w' v l ∧ IsB n l ∧ Below w.heap.size w w'

theorem sum_step (v c p x y : Nat) (A B : Nat) (h : v + c * 256 ^ p = A + B) : v + (x + y + c) % 256 * 256 ^ p + (x + y + c) / 256 * 256 ^ (p + 1) = A + x * 256 ^ p + (B + y * 256 ^ p) := by
  have h1 : (x + y + c) % 256 * 256 ^ p + (x + y + c) / 256 * 256 ^ (p + 1) = (x + y + c) * 256 ^ p := by
    have := Nat.mod_add_div (x + y + c) 256
    rw [Nat.pow_succ, Nat.mul_comm (256 ^ p) 256, ← Nat.mul_assoc, ← Nat.add_mul]
    congr 1; omega
  have h2 : (x + y + c) * 256 ^ p = x * 256 ^ p + y * 256 ^ p + c * 256 ^ p := by rw [Nat.add_mul, Nat.add_mul]
  omega
theorem Put.lt {n p v : Nat} {ys : List Nat} (h : Put n p v ys) (hp : p ≤ n) : v < 256 ^ p := by
  have := bv_lt (ys.drop (n - p)) (fun d hd => h.low d (List.mem_of_mem_drop hd))
  rw [h.sum, List.length_drop, h.len, show n - (n - p) = p from by omega] at this
  exact this

end Go.Proofs.YtllgogkjcbdpkaaGreat.Z
