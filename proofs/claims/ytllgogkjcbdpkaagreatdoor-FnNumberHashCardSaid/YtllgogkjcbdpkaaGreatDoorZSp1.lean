/- Written by wip/tools/port2.py out of the text Sp1 of seat Ytidkdjnfpepnfaa. -/
/- Walks of the reference's integers: cut, Of, told, whole. -/
import Derived.Test.YtllgogkjcbdpkaaGreatDoorZBase
namespace Go.Proofs.YtllgogkjcbdpkaaGreatDoor.Z
open Go.RowKit

set_option maxRecDepth 100000 in
set_option maxHeartbeats 1000000 in
theorem f30_any (v : Value) (l : List Nat) (hl : l.length ≤ 2147483647) (w : World) (B : Nat) (hr : Row B .u8 w v l) : Calls Tryz.prog 30 #[v] w (MakesRow .u8 (strip l) w) := by
  obtain ⟨i0, hi, hz0, hz1, hz2⟩ := info_parts info5
  have HR := Lib.hid hr
  rcases hr with ⟨rfl, hv⟩ | ⟨h0, g, off, c, rfl, hc, hB, hg, hcell⟩
  · have hs : Hid (strip [] = []) := rfl
    rcases hv with rfl | ⟨a, c, rfl⟩
    all_goals
      go_enter Tryz.func30, Tryz.ntmps30
      go_wp2_with fail
      go_loop [3] (fun i => i = .int .i64 0) (fun _ => 0)
      case atStart => rfl
      case round =>
        obtain rfl := hrel
        go_wp2_with fail
        go_ret
        exact ⟨_, rfl, .inl ⟨rfl, .inr ⟨_, _, rfl⟩⟩, (Below.refl _ _).alloc (Nat.le_refl _) _⟩
  · go_enter Tryz.func30, Tryz.ntmps30
    go_wp2_with fail
    go_loop [3] (fun i => ∃ k : Nat, i = .int .i64 k ∧ k ≤ l.length ∧ Hid (∀ j, j < k → l.getD j 0 = 0)) (fun i => l.length - (intOf i).toNat)
    case atStart => exact ⟨0, rfl, Nat.zero_le _, fun j hj => by omega⟩
    case round =>
      obtain ⟨k, rfl, hk, HZ⟩ := hrel
      have HO : (w.alloc (.cells #[] 5)).ownsRow w.heap.size 5 1 (.slice (some ⟨w.heap.size, 0, none⟩) 0 0) 0 [] := World.ownsRow_made w #[] 0 (Nat.le_refl _) (by decide) rfl
      by_cases hlt : k < l.length
      · have hck := hcell k hlt
        by_cases hz : l.getD k 0 = 0
        · have HZ' : Hid (∀ j, j < k + 1 → l.getD j 0 = 0) := fun j hj => by
            by_cases h : j = k
            · subst h; exact hz
            · exact HZ.out j (by omega)
          rw [hz] at hck
          clear hcell hz HO
          go_wp2_with fail
          go_round
          case rel => exact ⟨k + 1, by go_num, by omega, HZ'⟩
          case measure => simp [intOf]; omega
        · have hne : (((l.getD k 0 : Nat) : Int) == 0) = false := by rw [beq_eq_false_iff_ne]; omega
          have HS : Hid (strip l = l.drop k) := strip_drop l k HZ.out hlt hz
          have HRW : Hid (Row B .u8 (w.alloc (.cells #[] 5)) (.slice (some ⟨g, off + k, none⟩) (l.length - k) (c - k)) (l.drop k)) := by
            refine Row.alloc (.inr ⟨by simp; omega, g, off + k, c - k, by simp, by simp; omega, hB, hg, fun i hi => ?_⟩) _
            have := hcell (k + i) (by simp at hi; omega)
            rw [Nat.add_assoc, this]
            simp
          clear hcell
          generalize l.getD k 0 = x at *
          have hkc : ¬ c = k := by omega
          have K3 : Hid (0 + (l.drop k).length ≤ maxLen) := by show _ ≤ _; simp [maxLen]; omega
          have K4 : Hid ((0 + (l.drop k).length) * 1 ≤ 140737488355328) := by show _ ≤ _; simp; omega
          have K5 : Hid (w.heap.size ≤ (w.alloc (.cells #[] 5)).heap.size) := by show _ ≤ _; simp
          generalize l.drop k = D at *
          go_wp2_with (at_builtin; refine wpList_append_row rfl (.tmp 17) (.tmp 20) 22 rfl w.heap.size 5 i0 (.int .u8 0) 1 Tryz.underlying22 hi hz0 hz1 hz2 rfl _ 0 [] rfl HO .u8 _ D rfl B HRW.out K3.out K4.out K5.out ?_)
          intro v' w1 hown hgrow
          have hb : Below w.heap.size w w1 := ((Below.refl _ _).alloc (Nat.le_refl _) _).grown hgrow (by simp) (by intro q hq; simp [Value.ownBlock] at hq; omega)
          have HR2 := Lib.hid (Row.ofOwn hown)
          clear hown hgrow
          go_wp2_with fail
          go_ret
          exact ⟨_, rfl, by rw [HS.out]; exact HR2.out, hb⟩
      · obtain rfl : k = l.length := by omega
        have HS : Hid (strip l = []) := strip_all l HZ.out
        clear hcell
        by_cases hkc : c = l.length
        all_goals
          go_wp2_with fail
          go_ret
          exact ⟨_, rfl, by rw [HS.out]; exact .inl ⟨rfl, .inr ⟨_, _, rfl⟩⟩, (Below.refl _ _).alloc (Nat.le_refl _) _⟩

theorem of_flag (neg : Bool) (l : List Nat) (h : ∀ d ∈ l, d < 256) : decide (signed neg (bv l) < 0) = (neg && decide (0 < (strip l).length)) := by
  rw [signed_neg]
  congr 1
  rw [Bool.eq_iff_iff, decide_eq_true_eq, decide_eq_true_eq]
  have := (IsB.ofStrip l h).zero
  constructor
  · intro h1
    have : strip l ≠ [] := fun e => by have := this.2 e; omega
    exact List.length_pos_iff.2 this
  · intro h1
    have : bv l ≠ 0 := fun e => by have := this.1 e; rw [this] at h1; simp at h1
    omega

set_option maxRecDepth 100000 in
set_option maxHeartbeats 1000000 in
theorem f11_any (neg : Bool) (v : Value) (l : List Nat) (hl : l.length ≤ 2147483647) (hd : ∀ d ∈ l, d < 256) (w : World) (B : Nat) (hr : Row B .u8 w v l) :
    Calls Tryz.prog 11 #[.bool neg, v] w (MakesS (strip l).length (signed neg (bv l)) w) := by
  have F := Lib.hid (of_flag neg l hd)
  have HB := Lib.hid (IsB.ofStrip l hd)
  have HR := Lib.hid hr
  clear hr
  go_enter Tryz.func11, Tryz.ntmps11
  go_wp2_with fail
  refine (f30_any v l hl _ B (HR.out.alloc _)).mono ?_
  rintro e w1 ⟨sl, rfl, hrs, hb⟩
  obtain ⟨a, c, rfl⟩ := hrs.len
  have HS := Lib.hid hrs
  clear hrs
  have hc1 : ∀ i, w1.cell? ⟨w.heap.size, i, none⟩ = (w.alloc (.cells #[.bool false, .slice none 0 0] 24)).cell? ⟨w.heap.size, i, none⟩ := fun i => hb.cell (by simp)
  have hf1 : ∀ i, w1.frozen? ⟨w.heap.size, i, none⟩ = (w.alloc (.cells #[.bool false, .slice none 0 0] 24)).frozen? ⟨w.heap.size, i, none⟩ := fun i => hb.frozen (by simp)
  have hz := hb.size
  simp only [World.size_alloc] at hz
  have HSB := Lib.hid hb
  cases neg
  all_goals
    go_wp2_with fail
    refine bodyPost_ret (v := .agg #[.bool _, .slice a (strip l).length c]) (by simp [results, Tryz.results11, go_sem, hc1]; rfl) rfl ?_
    refine ⟨_, rfl, ⟨_, strip l, ?_, ((HS.out.setOld (by simp) _).setOld (by simp) _).le (by simp), by rw [signed_abs]; exact HB.out, Nat.le_refl _⟩, ?_⟩
    · rw [F.out]; simp
    · exact ((((Below.refl _ _).alloc (Nat.le_refl _) _).trans (HSB.out.mono (by simp))).setCell (by simp) _).setCell (by simp) _

set_option maxRecDepth 100000 in
set_option maxHeartbeats 1000000 in
/-- laws.told: an integer of the reference as a value of the thin package. -/
theorem f8_any (n : Nat) (hn : n ≤ 2147483647) (v : Value) (z : Int) (w : World) (B : Nat) (hs : SInt B n w v z) : Calls Tryz.prog 8 #[v] w (MakesV n z w) := by
  obtain ⟨i0, hi, hz0, hz1, hz2⟩ := info_parts info5
  obtain ⟨sl, l, rfl, hr, hb, hl⟩ := hs
  have HB := Lib.hid hb
  have HR := Lib.hid hr
  clear hb hr
  go_enter Tryz.func8, Tryz.ntmps8
  go_wp2_with fail
  have K3 : Hid (0 + l.length ≤ maxLen) := by show _ ≤ _; simp [maxLen]; omega
  have K4 : Hid ((0 + l.length) * 1 ≤ 140737488355328) := by show _ ≤ _; omega
  have hn : l.length ≤ 2147483647 := by omega
  generalize hd : decide (z < 0) = d at *
  have HD := Lib.hid hd
  clear hd
  generalize hw2 : (w.alloc (Obj.cells #[Value.bool d, sl] 24)).alloc (Obj.cells #[Value.int IntKind.i64 0, Value.bool false, Value.slice none 0 0, Value.int IntKind.u64 0, Value.string { data := #[] }, Value.slice none 0 0] 28) = w2
  have HW := Lib.hid hw2
  clear hw2
  have c0 : w2.cell? ⟨w.heap.size, 0, none⟩ = some (.bool d) := by rw [← HW.out]; simp [go_sem]
  have c1 : w2.cell? ⟨w.heap.size, 1, none⟩ = some sl := by rw [← HW.out]; simp [go_sem]
  have c2 : ∀ i, w2.cell? ⟨w.heap.size + 1, i, none⟩ = #[Value.int IntKind.i64 0, Value.bool false, Value.slice none 0 0, Value.int IntKind.u64 0, Value.string { data := #[] }, Value.slice none 0 0][i]? := by intro i; rw [← HW.out]; simp [go_sem]
  have f2 : ∀ i, w2.frozen? ⟨w.heap.size + 1, i, none⟩ = false := by intro i; rw [← HW.out]; simp [go_sem]
  have hz : w.heap.size + 2 = w2.heap.size := by rw [← HW.out]; simp
  have HRW : Hid (Row B .u8 w2 sl l) := by rw [← HW.out]; exact (HR.out.alloc _).alloc _
  go_region_held3 (fun w' => w'.cell? ⟨w.heap.size, 0, none⟩ = some (.bool d) ∧ w'.cell? ⟨w.heap.size, 1, none⟩ = some sl)
    (first | go_keep | ((try dsimp only); exact ⟨grown_cellX (.cells #[] 5) hgrow rfl c0, grown_cellX (.cells #[] 5) hgrow rfl c1⟩))
    ((refine step_append_new (by rfl) _ _ 22 (by rfl) 5 i0 (.int .u8 0) 1 Tryz.underlying22 hi hz0 hz1 hz2 rfl (by decide) w2.heap.size (by rfl) (heap_alloc_new w2 _) .u8 sl l (by rfl) B (Row.alloc HRW.out _) hn ?_; intro a' c' w3 hrow hgrow; have hb3 := Lib.hid (grown_belowX (.cells #[] 5) hgrow rfl rfl rfl rfl); have c3 : ∀ i, w3.cell? ⟨w.heap.size + 1, i, none⟩ = w2.cell? ⟨w.heap.size + 1, i, none⟩ := fun i => hb3.out.cell (by simp; omega); have f3 : ∀ i, w3.frozen? ⟨w.heap.size + 1, i, none⟩ = w2.frozen? ⟨w.heap.size + 1, i, none⟩ := fun i => hb3.out.frozen (by simp; omega)))
  go_wp2
  refine bodyPost_ret (v := .agg #[.int .i64 2, .bool d, .slice a' l.length c', .int .u64 0, .string ⟨#[]⟩, .slice none 0 0]) (by simp [results, Tryz.results8, go_sem, c3, c2]) rfl ?_
  refine ⟨_, rfl, ⟨_, l, by rw [HD.out], ?_, HB.out, hl⟩, ?_⟩
  · refine Row.le (B := w2.heap.size) ?_ (by omega)
    iterate 6 (refine Row.setOld ?_ (show w.heap.size + 1 < w2.heap.size by omega) _)
    exact hrow
  · iterate 6 (refine Below.setCell ?_ (show w.heap.size ≤ w.heap.size + 1 by omega) _)
    refine Below.trans (b := w2) ?_ (hb3.out.mono (by omega))
    rw [← HW.out]
    exact ((Below.refl _ _).alloc (Nat.le_refl _) _).alloc (by simp) _

def MakesSV (n : Nat) (z : Int) (w : World) (e : Ending) (w' : World) : Prop := ∃ v u, e = .returned (.tuple #[v, u]) ∧ SInt w.heap.size n w' v z ∧ VInt w.heap.size n w' u z ∧ Below w.heap.size w w'

end Go.Proofs.YtllgogkjcbdpkaaGreatDoor.Z
