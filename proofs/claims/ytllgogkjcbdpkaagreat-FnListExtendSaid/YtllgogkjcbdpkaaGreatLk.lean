/- The reference's Same, of values without parts that stand for one. -/
import Derived.Test.YtllgogkjcbdpkaaGreatLj
namespace Go.Proofs.YtllgogkjcbdpkaaGreat
open Go.RowKit
open Z (Row VInt KInt BInt IsB IsW smallB MakesV MakesS MakesK CmpIs)

def Box6 (b : Nat) (d : Bool) (a : Option Addr) (n c : Nat) (w : World) : Prop := w.cell? ⟨b, 0, none⟩ = some (.int .i64 2) ∧ w.cell? ⟨b, 1, none⟩ = some (.bool d) ∧ w.cell? ⟨b, 2, none⟩ = some (.slice a n c) ∧ w.cell? ⟨b, 3, none⟩ = some (.int .u64 0) ∧ w.cell? ⟨b, 4, none⟩ = some (.string ⟨#[]⟩) ∧ w.cell? ⟨b, 5, none⟩ = some (.slice none 0 0)
def Boxes (b : Nat) (d : Bool) (a1 a2 : Option Addr) (n c1 c2 : Nat) (w : World) : Prop := Box6 b d a1 n c1 w ∧ Box6 (b + 1) d a2 n c2 w
theorem Box6.below {b : Nat} {d : Bool} {a : Option Addr} {n c : Nat} {w w' : World} (h : Box6 b d a n c w) (hb : Below w.heap.size w w') : Box6 b d a n c w' :=
  ⟨cell_below h.1 hb, cell_below h.2.1 hb, cell_below h.2.2.1 hb, cell_below h.2.2.2.1 hb, cell_below h.2.2.2.2.1 hb, cell_below h.2.2.2.2.2 hb⟩
theorem boxes_below {b : Nat} {d : Bool} {a1 a2 : Option Addr} {n c1 c2 : Nat} {w w' : World} (h : Boxes b d a1 a2 n c1 c2 w ∧ b + 2 ≤ w.heap.size) (hb : Below w.heap.size w w') : Boxes b d a1 a2 n c1 c2 w' ∧ b + 2 ≤ w'.heap.size :=
  ⟨⟨h.1.1.below hb, h.1.2.below hb⟩, Nat.le_trans h.2 hb.size⟩
theorem cmp_self (z : Int) : Z.cmpZ z z = 0 := by simp [Z.cmpZ]
theorem f24_same (v1 v2 : Value) (z : Int) (w : World) (h1 : Z.SInt 0 4000 w v1 z) (h2 : Z.SInt 0 4000 w v2 z) : Calls Tryz.prog 24 #[v1, v2] w (CmpIs 0 w) := by
  have := Z.f24_any 4000 (by omega) v1 v2 z z 0 w h1 h2
  rwa [cmp_self] at this
def TrueIs (w : World) (e : Ending) (w' : World) : Prop := e = .returned (.bool true) ∧ Below w.heap.size w w'
set_option maxRecDepth 100000 in
set_option maxHeartbeats 8000000 in
theorem f12_int (d : Bool) (z : Int) (a1 a2 : Option Addr) (n c1 c2 : Nat) (w : World) (hx : VInt 0 4000 w (.agg #[.int .i64 2, .bool d, .slice a1 n c1, .int .u64 0, .string ⟨#[]⟩, .slice none 0 0]) z) (hy : VInt 0 4000 w (.agg #[.int .i64 2, .bool d, .slice a2 n c2, .int .u64 0, .string ⟨#[]⟩, .slice none 0 0]) z) :
    Calls Tryz.prog 12 #[.agg #[.int .i64 2, .bool d, .slice a1 n c1, .int .u64 0, .string ⟨#[]⟩, .slice none 0 0], .agg #[.int .i64 2, .bool d, .slice a2 n c2, .int .u64 0, .string ⟨#[]⟩, .slice none 0 0]] w (TrueIs w) := by
  have bel0 : Below w.heap.size w ((w.alloc (.cells #[.int .i64 2, .bool d, .slice a1 n c1, .int .u64 0, .string ⟨#[]⟩, .slice none 0 0] 31)).alloc (.cells #[.int .i64 2, .bool d, .slice a2 n c2, .int .u64 0, .string ⟨#[]⟩, .slice none 0 0] 31)) := ((Below.refl _ _).alloc (Nat.le_refl _) _).alloc (by simp) _
  have HX := Lib.hid (hx.below bel0 (Nat.le_refl _))
  have HY := Lib.hid (hy.below bel0 (Nat.le_refl _))
  have HB0 := Lib.hid bel0
  have heq : ∀ (s : ByteArray), (s.toList == s.toList) = true := fun s => by simp
  clear hx hy bel0
  go_enter Tryz.func12, Tryz.ntmps12
  go_wp2_with fail
  generalize hW : (w.alloc (.cells #[.int .i64 2, .bool d, .slice a1 n c1, .int .u64 0, .string ⟨#[]⟩, .slice none 0 0] 31)).alloc (.cells #[.int .i64 2, .bool d, .slice a2 n c2, .int .u64 0, .string ⟨#[]⟩, .slice none 0 0] 31) = W at *
  have F : Hid (Boxes w.heap.size d a1 a2 n c1 c2 W ∧ w.heap.size + 2 ≤ W.heap.size) := by
    rw [← hW]
    refine ⟨⟨⟨by simp [go_sem], by simp [go_sem], by simp [go_sem], by simp [go_sem], by simp [go_sem], by simp [go_sem]⟩, by simp [go_sem], by simp [go_sem], by simp [go_sem], by simp [go_sem], by simp [go_sem], by simp [go_sem]⟩, by simp⟩
  clear hW
  obtain ⟨⟨x0, x1, x2, x3, x4, x5⟩, y0, y1, y2, y3, y4, y5⟩ := F.out.1
  go_region_held3 (fun w' => w'.cell? ⟨w.heap.size, 0, none⟩ = some (.int .i64 2) ∧ w'.cell? ⟨w.heap.size, 1, none⟩ = some (.bool d) ∧ w'.cell? ⟨w.heap.size, 2, none⟩ = some (.slice a1 n c1) ∧ w'.cell? ⟨w.heap.size, 3, none⟩ = some (.int .u64 0) ∧ w'.cell? ⟨w.heap.size, 4, none⟩ = some (.string ⟨#[]⟩) ∧ w'.cell? ⟨w.heap.size, 5, none⟩ = some (.slice none 0 0) ∧ w'.cell? ⟨w.heap.size + 1, 0, none⟩ = some (.int .i64 2) ∧ w'.cell? ⟨w.heap.size + 1, 1, none⟩ = some (.bool d) ∧ w'.cell? ⟨w.heap.size + 1, 2, none⟩ = some (.slice a2 n c2) ∧ w'.cell? ⟨w.heap.size + 1, 3, none⟩ = some (.int .u64 0) ∧ w'.cell? ⟨w.heap.size + 1, 4, none⟩ = some (.string ⟨#[]⟩) ∧ w'.cell? ⟨w.heap.size + 1, 5, none⟩ = some (.slice none 0 0))
    (first
      | exact ⟨r0, r1, r2, r3, r4, r5, s0, s1, s2, s3, s4, s5⟩
      | exact ⟨p0, p1, p2, p3, p4, p5, q0, q1, q2, q3, q4, q5⟩
      | exact ⟨u0, u1, u2, u3, u4, u5, v0, v1, v2, v3, v4, v5⟩
      | exact ⟨x0, x1, x2, x3, x4, x5, y0, y1, y2, y3, y4, y5⟩
      | go_keep)
    (first
      | (go_at_call 24; refine (f24_same _ _ z _ (by exact HT1.out) (by exact HT2.out)).mono ?_; rintro e wc ⟨rfl, hbc⟩; have HBC := Lib.hid (HBB.out.trans (hbc.mono HZB.out)); have FC := Lib.hid (boxes_below FB.out hbc); obtain ⟨⟨r0, r1, r2, r3, r4, r5⟩, s0, s1, s2, s3, s4, s5⟩ := FC.out.1; clear hbc)
      | (go_at_call 23; refine (Z.f23_any 4000 (by omega) _ z 0 _ (by first | exact HYA.out | exact HXA.out)).mono ?_; rintro e wb ⟨vb, rfl, hsb, hbb⟩; have HT2 := Lib.hid (hsb.le (Nat.zero_le _) (Nat.le_refl _)); have HT1 := Lib.hid (HSA.out.below hbb (Nat.le_refl _)); have HBB := Lib.hid (HBA.out.trans (hbb.mono HZA.out)); have FB := Lib.hid (boxes_below FA.out hbb); have HZB : Hid (w.heap.size ≤ wb.heap.size) := (by have := FB.out.2; show _ ≤ _; omega); obtain ⟨⟨p0, p1, p2, p3, p4, p5⟩, q0, q1, q2, q3, q4, q5⟩ := FB.out.1; clear hsb hbb)
      | (go_at_call 23; refine (Z.f23_any 4000 (by omega) _ z 0 _ (by first | exact HX.out | exact HY.out)).mono ?_; rintro e wa ⟨va, rfl, hsa, hba⟩; have HSA := Lib.hid (hsa.le (Nat.zero_le _) (Nat.le_refl _)); have hba2 : Below W.heap.size W wa := bel_from hba ⟨rfl, rfl, rfl, rfl⟩; have HBA := Lib.hid (HB0.out.trans (hba2.mono (by have := F.out.2; omega))); have HXA := Lib.hid (HX.out.below hba2 (Nat.le_refl _)); have HYA := Lib.hid (HY.out.below hba2 (Nat.le_refl _)); have FA := Lib.hid (boxes_below F.out hba2); have HZA : Hid (w.heap.size ≤ wa.heap.size) := (by have := FA.out.2; show _ ≤ _; omega); obtain ⟨⟨u0, u1, u2, u3, u4, u5⟩, v0, v1, v2, v3, v4, v5⟩ := FA.out.1; clear hsa hba hba2))
  all_goals
    go_wp2
    go_ret
    exact ⟨rfl, HBC.out⟩
set_option maxRecDepth 100000 in
theorem f6_nil (w : World) : Calls Tryz.prog 6 #[.slice none 0 0, .slice none 0 0] w fun e w' => e = .returned (.bool true) ∧ w = w' := by
  go_enter Tryz.func6, Tryz.ntmps6
  go_wp2
  go_loop [5] (fun i => i = .int .i64 0) (fun _ => 0)
  case atStart => rfl
  case round =>
    obtain rfl := hrel
    go_wp2
    go_ret
    exact ⟨rfl, rfl⟩
theorem str_ne (t : ByteArray) : (t.toList != t.toList) = false := by simp
set_option maxRecDepth 100000 in
set_option maxHeartbeats 8000000 in
theorem f12_any (v1 v2 : Value) (s : Sc) (ok1 ok2 : Nat → Prop) (w : World) (h1 : VP ok1 w v1 s) (h2 : VP ok2 w v2 s) : Calls Tryz.prog 12 #[v1, v2] w (TrueIs w) := by
  cases s with
  | int z =>
    have k1 := h1.int
    have k2 := h2.int
    obtain ⟨s1, l1, rfl, r1, b1, _⟩ := h1
    obtain ⟨s2, l2, rfl, r2, b2, _⟩ := h2
    obtain rfl := b1.uniq b2
    obtain ⟨a1, c1, rfl⟩ := r1.row.len
    obtain ⟨a2, c2, rfl⟩ := r2.row.len
    exact f12_int (decide (z < 0)) z a1 a2 l1.length c1 c2 w k1 k2
  | float n =>
    obtain ⟨rfl, _⟩ := h1
    obtain ⟨rfl, _⟩ := h2
    unfold valOf
    go_enter Tryz.func12, Tryz.ntmps12
    go_wp2_with fail
    go_ret
    exact ⟨rfl, ((Below.refl _ _).alloc (Nat.le_refl _) _).alloc (by simp) _⟩
  | bool b =>
    obtain rfl := h1
    obtain rfl := h2
    unfold valOf
    generalize (if b then 1 else 0 : Nat) = n
    go_enter Tryz.func12, Tryz.ntmps12
    go_wp2_with fail
    go_ret
    exact ⟨rfl, ((Below.refl _ _).alloc (Nat.le_refl _) _).alloc (by simp) _⟩
  | none =>
    obtain rfl := h1
    obtain rfl := h2
    unfold valOf
    go_enter Tryz.func12, Tryz.ntmps12
    go_wp2_with (go_at_call 6; refine (f6_nil _).mono ?_; rintro e w' ⟨rfl, rfl⟩)
    go_ret
    exact ⟨rfl, ((Below.refl _ _).alloc (Nat.le_refl _) _).alloc (by simp) _⟩
  | str t =>
    obtain rfl := h1
    obtain rfl := h2
    unfold valOf
    have hne := str_ne t
    go_enter Tryz.func12, Tryz.ntmps12
    go_wp2_with (go_at_call 6; refine (f6_nil _).mono ?_; rintro e w' ⟨rfl, rfl⟩)
    go_ret
    exact ⟨rfl, ((Below.refl _ _).alloc (Nat.le_refl _) _).alloc (by simp) _⟩
  | bytes t =>
    obtain rfl := h1
    obtain rfl := h2
    unfold valOf
    have hne := str_ne t
    go_enter Tryz.func12, Tryz.ntmps12
    go_wp2_with (go_at_call 6; refine (f6_nil _).mono ?_; rintro e w' ⟨rfl, rfl⟩)
    go_ret
    exact ⟨rfl, ((Below.refl _ _).alloc (Nat.le_refl _) _).alloc (by simp) _⟩
end Go.Proofs.YtllgogkjcbdpkaaGreat
