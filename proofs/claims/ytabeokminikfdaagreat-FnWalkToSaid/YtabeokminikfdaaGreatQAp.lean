import Derived.Test.YtabeokminikfdaaGreatQA3
set_option linter.all false
set_option maxRecDepth 100000
set_option maxHeartbeats 4000000
namespace Go.Proofs.YtabeokminikfdaaGreat
open Go.RowKit
theorem f15_53 (P : Nat → Prop) (B be bn bl bf : Nat) (few : Int) (g : Nat) (nm : ByteArray) (s : St) (v : Value) (w : World) (hm : s.n + 1 ≤ 1000000) (h1 : s.names.length ≤ s.n) (he : s.e ≤ s.n)
  (hC : CL w B be bn bl bf few v s) (hP : Reads P B be bn bl bf) (hB : B ≤ w.heap.size) (hg : Sees w P ⟨g, 4, none⟩ (.string nm)) :
  Calls Tryz.prog 15 #[.iface 53 (.pointer (some ⟨g, 0, none⟩)), clo be bn bl bf] w fun e w' => e = .returned (.tuple #[]) ∧ Leaves P B be bn bl bf few (visit few (.mk (some nm) []) s) w w' := by
 have t46 : ∀ w, (Instr.typeAssert (.iface 53 (.pointer (some ⟨g, 0, none⟩))) 52 46 true).run Tryz.prog w = .ok (.tuple #[.pointer none, .bool false]) w := fun _ => by kernel_rfl
 have t79 : ∀ w, (Instr.typeAssert (.iface 53 (.pointer (some ⟨g, 0, none⟩))) 52 79 true).run Tryz.prog w = .ok (.tuple #[.pointer none, .bool false]) w := fun _ => by kernel_rfl
 have t84 : ∀ w, (Instr.typeAssert (.iface 53 (.pointer (some ⟨g, 0, none⟩))) 52 84 true).run Tryz.prog w = .ok (.tuple #[.pointer none, .bool false]) w := fun _ => by kernel_rfl
 have t85 : ∀ w, (Instr.typeAssert (.iface 53 (.pointer (some ⟨g, 0, none⟩))) 52 85 true).run Tryz.prog w = .ok (.tuple #[.pointer none, .bool false]) w := fun _ => by kernel_rfl
 have t88 : ∀ w, (Instr.typeAssert (.iface 53 (.pointer (some ⟨g, 0, none⟩))) 52 88 true).run Tryz.prog w = .ok (.tuple #[.pointer none, .bool false]) w := fun _ => by kernel_rfl
 have t93 : ∀ w, (Instr.typeAssert (.iface 53 (.pointer (some ⟨g, 0, none⟩))) 52 93 true).run Tryz.prog w = .ok (.tuple #[.pointer none, .bool false]) w := fun _ => by kernel_rfl
 have t97 : ∀ w, (Instr.typeAssert (.iface 53 (.pointer (some ⟨g, 0, none⟩))) 52 97 true).run Tryz.prog w = .ok (.tuple #[.pointer none, .bool false]) w := fun _ => by kernel_rfl
 have t100 : ∀ w, (Instr.typeAssert (.iface 53 (.pointer (some ⟨g, 0, none⟩))) 52 100 true).run Tryz.prog w = .ok (.tuple #[.pointer none, .bool false]) w := fun _ => by kernel_rfl
 have t103 : ∀ w, (Instr.typeAssert (.iface 53 (.pointer (some ⟨g, 0, none⟩))) 52 103 true).run Tryz.prog w = .ok (.tuple #[.pointer none, .bool false]) w := fun _ => by kernel_rfl
 have t106 : ∀ w, (Instr.typeAssert (.iface 53 (.pointer (some ⟨g, 0, none⟩))) 52 106 true).run Tryz.prog w = .ok (.tuple #[.pointer none, .bool false]) w := fun _ => by kernel_rfl
 have t53 : ∀ w, (Instr.typeAssert (.iface 53 (.pointer (some ⟨g, 0, none⟩))) 52 53 true).run Tryz.prog w = .ok (.tuple #[.pointer (some ⟨g, 0, none⟩), .bool true]) w := fun _ => by kernel_rfl
 have t107 : ∀ w, (Instr.typeAssert (.iface 53 (.pointer (some ⟨g, 0, none⟩))) 52 107 true).run Tryz.prog w = .ok (.tuple #[.pointer none, .bool false]) w := fun _ => by kernel_rfl
 have hnn : ∀ w, (binOp .eql 52 (.iface 53 (.pointer (some ⟨g, 0, none⟩))) .nilIface).run Tryz.prog w = .ok (.bool false) w := fun w => by kernel_rfl
 have HI := Lib.hid (f16_ident g nm B be bn bl bf few v s (by omega) (by omega) w hC hB hg.2 (hP g hg.1).2.2.1)
 have HL := Lib.hid hC.row.lt
 have HP := Lib.hid hP
 have HB := Lib.hid hB
 clear hC hP hB hg h1
 go_enter Tryz.func15, Tryz.ntmps15
 unfold clo
 go_wp2_with fail
 refine HI.out.mono ?_
 rintro e w1 ⟨rfl, v', h1, -, h3, h4, h5, h6, h7⟩
 have HM : Hid (Leaves P B be bn bl bf few ⟨s.names ++ [nm], s.n + 1, s.e⟩ w w1) := Lib.hid ⟨⟨v', h1⟩, h3, fun k hk => by
  obtain ⟨p1, p2, p3, p4, p5⟩ := HP.out k hk
  exact h7 k (Nat.lt_of_lt_of_le p1 HB.out) p3 p4 fun e => by have := (HL.out k e.symm).1; omega, h4, h5, h6⟩
 have HC := Lib.hid h1
 clear h1 h3 h4 h5 h6 h7 HI HL hnn
 by_cases hgo : goes few (s.n + 1) = true
 ·rw [hgo]
  go_wp2_with fail
  refine (f16_nil B be bn bl bf few v' _ (by show s.e ≤ 1000000; omega) w1 HC.out).mono ?_
  rintro e w9 ⟨rfl, h⟩
  have HF := Lib.hid (HM.out.finish HC.out HP.out)
  rw [← h] at HF
  clear h
  go_wp2
  go_end0
  refine ⟨rfl, ?_⟩
  rw [visit_in hgo]
  simp only [visits, Option.toList]
  exact HF.out
 ·rw [Bool.not_eq_true] at hgo
  rw [hgo]
  go_wp2
  refine bodyPost_ret (results_none rfl _ _ _) rfl ?_
  refine ⟨rfl, ?_⟩
  rw [visit_out hgo]
  simp only [Option.toList]
  exact HM.out
theorem f15_106 (P : Nat → Prop) (B be bn bl bf : Nat) (few : Int) (sz : Nat) (hW : WalkAt P B be bn bl bf few sz) (g : Nat) (s : St) (v : Value) (w : World) (x0 : Value) (t0 : Tr) (c0 : Sees w P ⟨g, 4, none⟩ x0) (d0 : Nd (Sees w P) (.iface 107 x0) t0) (a1 : Option Addr) (n1 m1 : Nat) (r1 : List Tr) (c1 : Sees w P ⟨g, 5, none⟩ (.slice a1 n1 m1)) (d1 : Nds (Sees w P) 53 a1 r1) (e1 : n1 = r1.length) (a2 : Option Addr) (n2 m2 : Nat) (r2 : List Tr) (c2 : Sees w P ⟨g, 6, none⟩ (.slice a2 n2 m2)) (d2 : Nds (Sees w P) 53 a2 r2) (e2 : n2 = r2.length) (hz : (t0.size + (sizes r1 + (sizes r2 + 0))) ≤ sz) (hm : s.n + 1 + (t0.size + (sizes r1 + (sizes r2 + 0))) ≤ 1000000) (h1 : s.names.length ≤ s.n) (he : s.e ≤ s.n)
  (hC : CL w B be bn bl bf few v s) (hP : Reads P B be bn bl bf) (hB : B ≤ w.heap.size) :
  Calls Tryz.prog 15 #[.iface 106 (.pointer (some ⟨g, 0, none⟩)), clo be bn bl bf] w fun e w' => e = .returned (.tuple #[]) ∧ Leaves P B be bn bl bf few (visit few (.mk none (t0 :: (r1 ++ (r2 ++ [])))) s) w w' := by
 have t46 : ∀ w, (Instr.typeAssert (.iface 106 (.pointer (some ⟨g, 0, none⟩))) 52 46 true).run Tryz.prog w = .ok (.tuple #[.pointer none, .bool false]) w := fun _ => by kernel_rfl
 have t79 : ∀ w, (Instr.typeAssert (.iface 106 (.pointer (some ⟨g, 0, none⟩))) 52 79 true).run Tryz.prog w = .ok (.tuple #[.pointer none, .bool false]) w := fun _ => by kernel_rfl
 have t84 : ∀ w, (Instr.typeAssert (.iface 106 (.pointer (some ⟨g, 0, none⟩))) 52 84 true).run Tryz.prog w = .ok (.tuple #[.pointer none, .bool false]) w := fun _ => by kernel_rfl
 have t85 : ∀ w, (Instr.typeAssert (.iface 106 (.pointer (some ⟨g, 0, none⟩))) 52 85 true).run Tryz.prog w = .ok (.tuple #[.pointer none, .bool false]) w := fun _ => by kernel_rfl
 have t88 : ∀ w, (Instr.typeAssert (.iface 106 (.pointer (some ⟨g, 0, none⟩))) 52 88 true).run Tryz.prog w = .ok (.tuple #[.pointer none, .bool false]) w := fun _ => by kernel_rfl
 have t93 : ∀ w, (Instr.typeAssert (.iface 106 (.pointer (some ⟨g, 0, none⟩))) 52 93 true).run Tryz.prog w = .ok (.tuple #[.pointer none, .bool false]) w := fun _ => by kernel_rfl
 have t97 : ∀ w, (Instr.typeAssert (.iface 106 (.pointer (some ⟨g, 0, none⟩))) 52 97 true).run Tryz.prog w = .ok (.tuple #[.pointer none, .bool false]) w := fun _ => by kernel_rfl
 have t100 : ∀ w, (Instr.typeAssert (.iface 106 (.pointer (some ⟨g, 0, none⟩))) 52 100 true).run Tryz.prog w = .ok (.tuple #[.pointer none, .bool false]) w := fun _ => by kernel_rfl
 have t103 : ∀ w, (Instr.typeAssert (.iface 106 (.pointer (some ⟨g, 0, none⟩))) 52 103 true).run Tryz.prog w = .ok (.tuple #[.pointer none, .bool false]) w := fun _ => by kernel_rfl
 have t106 : ∀ w, (Instr.typeAssert (.iface 106 (.pointer (some ⟨g, 0, none⟩))) 52 106 true).run Tryz.prog w = .ok (.tuple #[.pointer (some ⟨g, 0, none⟩), .bool true]) w := fun _ => by kernel_rfl
 have hT : ∀ w, (Instr.typeAssert (.iface 106 (.pointer (some ⟨g, 0, none⟩))) 52 53 true).run Tryz.prog w = .ok (.tuple #[.pointer none, .bool false]) w := fun _ => by kernel_rfl
 have hnn : ∀ w, (binOp .eql 52 (.iface 106 (.pointer (some ⟨g, 0, none⟩))) .nilIface).run Tryz.prog w = .ok (.bool false) w := fun w => by kernel_rfl
 subst e1
 have l1 : r1.length ≤ 1000000 := by have := length_sizes r1; omega
 subst e2
 have l2 : r2.length ≤ 1000000 := by have := length_sizes r2; omega
 have M0 := fun (H : CL w B be bn bl bf few v s) => mid_start 106 (.pointer (some ⟨g, 0, none⟩)) hT H hP h1 he hm hz
 have HM0 := Lib.hid (M0 hC)
 have C0 := Lib.hid c0
 have D0 := Lib.hid d0
 have C1 := Lib.hid c1
 have D1 := Lib.hid d1
 have C2 := Lib.hid c2
 have D2 := Lib.hid d2
 have HW := Lib.hid hW
 have HP := Lib.hid hP
 have HB := Lib.hid hB
 clear M0 hC hW hP hB hz hm h1 he c0 d0 c1 d1 c2 d2
 go_enter Tryz.func15, Tryz.ntmps15
 unfold clo
 go_wp2_with fail
 refine HM0.out.mono ?_
 rintro e w1 ⟨rfl, h⟩
 have HM1 := Lib.hid h
 clear h HM0 hnn
 by_cases hgo : goes few (s.n + 1) = true
 ·rw [hgo]
  have g1 := HM1.out.sees C0.out
  go_wp2_with fail
  refine (Mid.call HW.out HM1.out HB.out D0.out).mono ?_
  rintro e w2 ⟨rfl, h⟩
  have HM2 := Lib.hid h
  clear h g1
  have g2 := HM2.out.sees C1.out
  go_wp2_with fail
  go_loopw [210] (fun i wr => ∃ k : Nat, k ≤ r1.length ∧ i = .int .i64 k ∧ Mid P B be bn bl bf few sz (visits few (r1.take k) (visit few t0 ⟨s.names, s.n + 1, s.e⟩)) (sizes (r1.drop k) + (sizes r2 + 0)) w wr) (fun i _ => r1.length - (intOf i).toNat)
  case atStart => exact ⟨0, Nat.zero_le _, rfl, HM2.out.row0⟩
  case round =>
   obtain ⟨k, hk, rfl, hL⟩ := hrel
   have HL := Lib.hid hL
   clear hL
   by_cases hlt : k < r1.length
   ·have hk' : k < r1.length := by omega
    obtain ⟨b, i, rfl⟩ := nds_some D1.out (Nat.lt_of_le_of_lt (Nat.zero_le k) hk')
    obtain ⟨x, hx, hdx⟩ := Nds.get D1.out k hk'
    have hc := HL.out.sees hx
    have HX := Lib.hid hdx
    have HR := Lib.hid (HL.out.row1 hk')
    have HV := Lib.hid (visits_at few r1 (visit few t0 ⟨s.names, s.n + 1, s.e⟩) k hk')
    clear hx hdx
    go_wp2_with fail
    refine (Mid.call HW.out HR.out HB.out HX.out).mono ?_
    rintro e w2 ⟨rfl, hl2⟩
    have HL2 := Lib.hid hl2
    clear hl2
    go_wp2
    go_roundw
    case rel => exact ⟨k + 1, by omega, by go_num, by rw [HV.out]; exact HL2.out⟩
    case measure =>
     simp [intOf]
     omega
   ·have HM3 := Lib.hid (HL.out.rowN (by omega))
    clear HL
    have g3 := HM3.out.sees C2.out
    go_wp2_with fail
    go_loopw [224] (fun i wr => ∃ k : Nat, k ≤ r2.length ∧ i = .int .i64 k ∧ Mid P B be bn bl bf few sz (visits few (r2.take k) (visits few r1 (visit few t0 ⟨s.names, s.n + 1, s.e⟩))) (sizes (r2.drop k) + 0) w wr) (fun i _ => r2.length - (intOf i).toNat)
    case atStart => exact ⟨0, Nat.zero_le _, rfl, HM3.out.row0⟩
    case round =>
     obtain ⟨k, hk, rfl, hL⟩ := hrel
     have HL := Lib.hid hL
     clear hL
     by_cases hlt : k < r2.length
     ·have hk' : k < r2.length := by omega
      obtain ⟨b, i, rfl⟩ := nds_some D2.out (Nat.lt_of_le_of_lt (Nat.zero_le k) hk')
      obtain ⟨x, hx, hdx⟩ := Nds.get D2.out k hk'
      have hc := HL.out.sees hx
      have HX := Lib.hid hdx
      have HR := Lib.hid (HL.out.row1 hk')
      have HV := Lib.hid (visits_at few r2 (visits few r1 (visit few t0 ⟨s.names, s.n + 1, s.e⟩)) k hk')
      clear hx hdx
      go_wp2_with fail
      refine (Mid.call HW.out HR.out HB.out HX.out).mono ?_
      rintro e w2 ⟨rfl, hl2⟩
      have HL2 := Lib.hid hl2
      clear hl2
      go_wp2
      go_roundw
      case rel => exact ⟨k + 1, by omega, by go_num, by rw [HV.out]; exact HL2.out⟩
      case measure =>
       simp [intOf]
       omega
     ·have HM4 := Lib.hid (HL.out.rowN (by omega))
      clear HL
      go_wp2_with fail
      refine (Mid.ended HM4.out HP.out).mono ?_
      rintro e w9 ⟨rfl, h⟩
      have HF := Lib.hid h
      clear h
      go_wp2
      go_end0
      refine ⟨rfl, ?_⟩
      rw [visit_in hgo]
      simp only [visits, visits_append, Option.toList, List.append_nil]
      exact HF.out
 ·rw [Bool.not_eq_true] at hgo
  rw [hgo]
  go_wp2
  refine bodyPost_ret (results_none rfl _ _ _) rfl ?_
  refine ⟨rfl, ?_⟩
  rw [visit_out hgo]
  simp only [Option.toList, List.append_nil]
  exact HM1.out.leaves
end Go.Proofs.YtabeokminikfdaaGreat
