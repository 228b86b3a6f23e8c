import Derived.Test.YtabeokminikfdaaGreatQA3
set_option linter.all false
set_option maxRecDepth 100000
set_option maxHeartbeats 4000000
namespace Go.Proofs.YtabeokminikfdaaGreat
open Go.RowKit
theorem f15_125_yyy (P : Nat → Prop) (B be bn bl bf : Nat) (few : Int) (sz : Nat) (hW : WalkAt P B be bn bl bf few sz) (g : Nat) (s : St) (v : Value) (w : World) (x0 : Value) (t0 : Tr) (c0 : Sees w P ⟨g, 1, none⟩ x0) (d0 : Nd (Sees w P) x0 t0) (x1 : Value) (t1 : Tr) (c1 : Sees w P ⟨g, 5, none⟩ x1) (d1 : Nd (Sees w P) x1 t1) (x2 : Value) (t2 : Tr) (c2 : Sees w P ⟨g, 6, none⟩ x2) (d2 : Nd (Sees w P) x2 t2) (x3 : Value) (t3 : Tr) (c3 : Sees w P ⟨g, 7, none⟩ x3) (d3 : Nd (Sees w P) x3 t3) (hz : (t0.size + (t1.size + (t2.size + (t3.size + 0)))) ≤ sz) (hm : s.n + 1 + (t0.size + (t1.size + (t2.size + (t3.size + 0)))) ≤ 1000000) (h1 : s.names.length ≤ s.n) (he : s.e ≤ s.n)
  (hC : CL w B be bn bl bf few v s) (hP : Reads P B be bn bl bf) (hB : B ≤ w.heap.size) :
  Calls Tryz.prog 15 #[.iface 125 (.pointer (some ⟨g, 0, none⟩)), clo be bn bl bf] w fun e w' => e = .returned (.tuple #[]) ∧ Leaves P B be bn bl bf few (visit few (.mk none (t0 :: (t1 :: (t2 :: (t3 :: []))))) s) w w' := by
 have t46 : ∀ w, (Instr.typeAssert (.iface 125 (.pointer (some ⟨g, 0, none⟩))) 52 46 true).run Tryz.prog w = .ok (.tuple #[.pointer none, .bool false]) w := fun _ => by kernel_rfl
 have t79 : ∀ w, (Instr.typeAssert (.iface 125 (.pointer (some ⟨g, 0, none⟩))) 52 79 true).run Tryz.prog w = .ok (.tuple #[.pointer none, .bool false]) w := fun _ => by kernel_rfl
 have t84 : ∀ w, (Instr.typeAssert (.iface 125 (.pointer (some ⟨g, 0, none⟩))) 52 84 true).run Tryz.prog w = .ok (.tuple #[.pointer none, .bool false]) w := fun _ => by kernel_rfl
 have t85 : ∀ w, (Instr.typeAssert (.iface 125 (.pointer (some ⟨g, 0, none⟩))) 52 85 true).run Tryz.prog w = .ok (.tuple #[.pointer none, .bool false]) w := fun _ => by kernel_rfl
 have t88 : ∀ w, (Instr.typeAssert (.iface 125 (.pointer (some ⟨g, 0, none⟩))) 52 88 true).run Tryz.prog w = .ok (.tuple #[.pointer none, .bool false]) w := fun _ => by kernel_rfl
 have t93 : ∀ w, (Instr.typeAssert (.iface 125 (.pointer (some ⟨g, 0, none⟩))) 52 93 true).run Tryz.prog w = .ok (.tuple #[.pointer none, .bool false]) w := fun _ => by kernel_rfl
 have t97 : ∀ w, (Instr.typeAssert (.iface 125 (.pointer (some ⟨g, 0, none⟩))) 52 97 true).run Tryz.prog w = .ok (.tuple #[.pointer none, .bool false]) w := fun _ => by kernel_rfl
 have t100 : ∀ w, (Instr.typeAssert (.iface 125 (.pointer (some ⟨g, 0, none⟩))) 52 100 true).run Tryz.prog w = .ok (.tuple #[.pointer none, .bool false]) w := fun _ => by kernel_rfl
 have t103 : ∀ w, (Instr.typeAssert (.iface 125 (.pointer (some ⟨g, 0, none⟩))) 52 103 true).run Tryz.prog w = .ok (.tuple #[.pointer none, .bool false]) w := fun _ => by kernel_rfl
 have t106 : ∀ w, (Instr.typeAssert (.iface 125 (.pointer (some ⟨g, 0, none⟩))) 52 106 true).run Tryz.prog w = .ok (.tuple #[.pointer none, .bool false]) w := fun _ => by kernel_rfl
 have t53 : ∀ w, (Instr.typeAssert (.iface 125 (.pointer (some ⟨g, 0, none⟩))) 52 53 true).run Tryz.prog w = .ok (.tuple #[.pointer none, .bool false]) w := fun _ => by kernel_rfl
 have t107 : ∀ w, (Instr.typeAssert (.iface 125 (.pointer (some ⟨g, 0, none⟩))) 52 107 true).run Tryz.prog w = .ok (.tuple #[.pointer none, .bool false]) w := fun _ => by kernel_rfl
 have t110 : ∀ w, (Instr.typeAssert (.iface 125 (.pointer (some ⟨g, 0, none⟩))) 52 110 true).run Tryz.prog w = .ok (.tuple #[.pointer none, .bool false]) w := fun _ => by kernel_rfl
 have t113 : ∀ w, (Instr.typeAssert (.iface 125 (.pointer (some ⟨g, 0, none⟩))) 52 113 true).run Tryz.prog w = .ok (.tuple #[.pointer none, .bool false]) w := fun _ => by kernel_rfl
 have t116 : ∀ w, (Instr.typeAssert (.iface 125 (.pointer (some ⟨g, 0, none⟩))) 52 116 true).run Tryz.prog w = .ok (.tuple #[.pointer none, .bool false]) w := fun _ => by kernel_rfl
 have t119 : ∀ w, (Instr.typeAssert (.iface 125 (.pointer (some ⟨g, 0, none⟩))) 52 119 true).run Tryz.prog w = .ok (.tuple #[.pointer none, .bool false]) w := fun _ => by kernel_rfl
 have t122 : ∀ w, (Instr.typeAssert (.iface 125 (.pointer (some ⟨g, 0, none⟩))) 52 122 true).run Tryz.prog w = .ok (.tuple #[.pointer none, .bool false]) w := fun _ => by kernel_rfl
 have t125 : ∀ w, (Instr.typeAssert (.iface 125 (.pointer (some ⟨g, 0, none⟩))) 52 125 true).run Tryz.prog w = .ok (.tuple #[.pointer (some ⟨g, 0, none⟩), .bool true]) w := fun _ => by kernel_rfl
 have hT := t53
 have hnn : ∀ w, (binOp .eql 52 (.iface 125 (.pointer (some ⟨g, 0, none⟩))) .nilIface).run Tryz.prog w = .ok (.bool false) w := fun w => by kernel_rfl
 obtain ⟨T1, p1, rfl⟩ := d1.iface
 have q1 : ∀ w, (binOp .neq 81 (.iface T1 p1) .nilIface).run Tryz.prog w = .ok (.bool true) w := fun w => by kernel_rfl
 obtain ⟨T2, p2, rfl⟩ := d2.iface
 have q2 : ∀ w, (binOp .neq 81 (.iface T2 p2) .nilIface).run Tryz.prog w = .ok (.bool true) w := fun w => by kernel_rfl
 obtain ⟨T3, p3, rfl⟩ := d3.iface
 have q3 : ∀ w, (binOp .neq 81 (.iface T3 p3) .nilIface).run Tryz.prog w = .ok (.bool true) w := fun w => by kernel_rfl
 have M0 := fun (H : CL w B be bn bl bf few v s) => mid_start 125 (.pointer (some ⟨g, 0, none⟩)) hT H hP h1 he hm hz
 have HM0 := Lib.hid (M0 hC)
 have C0 := Lib.hid c0
 have D0 := Lib.hid d0
 have C1 := Lib.hid c1
 have D1 := Lib.hid d1
 have C2 := Lib.hid c2
 have D2 := Lib.hid d2
 have C3 := Lib.hid c3
 have D3 := Lib.hid d3
 have HW := Lib.hid hW
 have HP := Lib.hid hP
 have HB := Lib.hid hB
 clear M0 hC hW hP hB hz hm h1 he c0 d0 c1 d1 c2 d2 c3 d3
 go_enter Tryz.func15, Tryz.ntmps15
 unfold clo
 go_wp2_with fail
 refine HM0.out.mono ?_
 rintro e w1 ⟨rfl, h⟩
 have HM1 := Lib.hid h
 clear h HM0 hnn
 by_cases hgo : goes few (s.n + 1) = true
 ·rw [hgo]
  have g1 := HM1.out.sees C0.out
  go_wp2_with fail
  refine (Mid.call HW.out HM1.out HB.out D0.out).mono ?_
  rintro e w2 ⟨rfl, h⟩
  have HM2 := Lib.hid h
  clear h g1
  have g2 := HM2.out.sees C1.out
  go_wp2_with fail
  refine (Mid.call HW.out HM2.out HB.out D1.out).mono ?_
  rintro e w3 ⟨rfl, h⟩
  have HM3 := Lib.hid h
  clear h g2
  have g3 := HM3.out.sees C2.out
  go_wp2_with fail
  refine (Mid.call HW.out HM3.out HB.out D2.out).mono ?_
  rintro e w4 ⟨rfl, h⟩
  have HM4 := Lib.hid h
  clear h g3
  have g4 := HM4.out.sees C3.out
  go_wp2_with fail
  refine (Mid.call HW.out HM4.out HB.out D3.out).mono ?_
  rintro e w5 ⟨rfl, h⟩
  have HM5 := Lib.hid h
  clear h g4
  go_wp2_with fail
  refine (Mid.ended HM5.out HP.out).mono ?_
  rintro e w9 ⟨rfl, h⟩
  have HF := Lib.hid h
  clear h
  go_wp2
  go_end0
  refine ⟨rfl, ?_⟩
  rw [visit_in hgo]
  simp only [visits, visits_append, Option.toList, List.append_nil]
  exact HF.out
 ·rw [Bool.not_eq_true] at hgo
  rw [hgo]
  go_wp2
  refine bodyPost_ret (results_none rfl _ _ _) rfl ?_
  refine ⟨rfl, ?_⟩
  rw [visit_out hgo]
  simp only [Option.toList, List.append_nil]
  exact HM1.out.leaves
theorem f15_125_yyn (P : Nat → Prop) (B be bn bl bf : Nat) (few : Int) (sz : Nat) (hW : WalkAt P B be bn bl bf few sz) (g : Nat) (s : St) (v : Value) (w : World) (x0 : Value) (t0 : Tr) (c0 : Sees w P ⟨g, 1, none⟩ x0) (d0 : Nd (Sees w P) x0 t0) (x1 : Value) (t1 : Tr) (c1 : Sees w P ⟨g, 5, none⟩ x1) (d1 : Nd (Sees w P) x1 t1) (x2 : Value) (t2 : Tr) (c2 : Sees w P ⟨g, 6, none⟩ x2) (d2 : Nd (Sees w P) x2 t2) (c3 : Sees w P ⟨g, 7, none⟩ .nilIface) (hz : (t0.size + (t1.size + (t2.size + 0))) ≤ sz) (hm : s.n + 1 + (t0.size + (t1.size + (t2.size + 0))) ≤ 1000000) (h1 : s.names.length ≤ s.n) (he : s.e ≤ s.n)
  (hC : CL w B be bn bl bf few v s) (hP : Reads P B be bn bl bf) (hB : B ≤ w.heap.size) :
  Calls Tryz.prog 15 #[.iface 125 (.pointer (some ⟨g, 0, none⟩)), clo be bn bl bf] w fun e w' => e = .returned (.tuple #[]) ∧ Leaves P B be bn bl bf few (visit few (.mk none (t0 :: (t1 :: (t2 :: [])))) s) w w' := by
 have t46 : ∀ w, (Instr.typeAssert (.iface 125 (.pointer (some ⟨g, 0, none⟩))) 52 46 true).run Tryz.prog w = .ok (.tuple #[.pointer none, .bool false]) w := fun _ => by kernel_rfl
 have t79 : ∀ w, (Instr.typeAssert (.iface 125 (.pointer (some ⟨g, 0, none⟩))) 52 79 true).run Tryz.prog w = .ok (.tuple #[.pointer none, .bool false]) w := fun _ => by kernel_rfl
 have t84 : ∀ w, (Instr.typeAssert (.iface 125 (.pointer (some ⟨g, 0, none⟩))) 52 84 true).run Tryz.prog w = .ok (.tuple #[.pointer none, .bool false]) w := fun _ => by kernel_rfl
 have t85 : ∀ w, (Instr.typeAssert (.iface 125 (.pointer (some ⟨g, 0, none⟩))) 52 85 true).run Tryz.prog w = .ok (.tuple #[.pointer none, .bool false]) w := fun _ => by kernel_rfl
 have t88 : ∀ w, (Instr.typeAssert (.iface 125 (.pointer (some ⟨g, 0, none⟩))) 52 88 true).run Tryz.prog w = .ok (.tuple #[.pointer none, .bool false]) w := fun _ => by kernel_rfl
 have t93 : ∀ w, (Instr.typeAssert (.iface 125 (.pointer (some ⟨g, 0, none⟩))) 52 93 true).run Tryz.prog w = .ok (.tuple #[.pointer none, .bool false]) w := fun _ => by kernel_rfl
 have t97 : ∀ w, (Instr.typeAssert (.iface 125 (.pointer (some ⟨g, 0, none⟩))) 52 97 true).run Tryz.prog w = .ok (.tuple #[.pointer none, .bool false]) w := fun _ => by kernel_rfl
 have t100 : ∀ w, (Instr.typeAssert (.iface 125 (.pointer (some ⟨g, 0, none⟩))) 52 100 true).run Tryz.prog w = .ok (.tuple #[.pointer none, .bool false]) w := fun _ => by kernel_rfl
 have t103 : ∀ w, (Instr.typeAssert (.iface 125 (.pointer (some ⟨g, 0, none⟩))) 52 103 true).run Tryz.prog w = .ok (.tuple #[.pointer none, .bool false]) w := fun _ => by kernel_rfl
 have t106 : ∀ w, (Instr.typeAssert (.iface 125 (.pointer (some ⟨g, 0, none⟩))) 52 106 true).run Tryz.prog w = .ok (.tuple #[.pointer none, .bool false]) w := fun _ => by kernel_rfl
 have t53 : ∀ w, (Instr.typeAssert (.iface 125 (.pointer (some ⟨g, 0, none⟩))) 52 53 true).run Tryz.prog w = .ok (.tuple #[.pointer none, .bool false]) w := fun _ => by kernel_rfl
 have t107 : ∀ w, (Instr.typeAssert (.iface 125 (.pointer (some ⟨g, 0, none⟩))) 52 107 true).run Tryz.prog w = .ok (.tuple #[.pointer none, .bool false]) w := fun _ => by kernel_rfl
 have t110 : ∀ w, (Instr.typeAssert (.iface 125 (.pointer (some ⟨g, 0, none⟩))) 52 110 true).run Tryz.prog w = .ok (.tuple #[.pointer none, .bool false]) w := fun _ => by kernel_rfl
 have t113 : ∀ w, (Instr.typeAssert (.iface 125 (.pointer (some ⟨g, 0, none⟩))) 52 113 true).run Tryz.prog w = .ok (.tuple #[.pointer none, .bool false]) w := fun _ => by kernel_rfl
 have t116 : ∀ w, (Instr.typeAssert (.iface 125 (.pointer (some ⟨g, 0, none⟩))) 52 116 true).run Tryz.prog w = .ok (.tuple #[.pointer none, .bool false]) w := fun _ => by kernel_rfl
 have t119 : ∀ w, (Instr.typeAssert (.iface 125 (.pointer (some ⟨g, 0, none⟩))) 52 119 true).run Tryz.prog w = .ok (.tuple #[.pointer none, .bool false]) w := fun _ => by kernel_rfl
 have t122 : ∀ w, (Instr.typeAssert (.iface 125 (.pointer (some ⟨g, 0, none⟩))) 52 122 true).run Tryz.prog w = .ok (.tuple #[.pointer none, .bool false]) w := fun _ => by kernel_rfl
 have t125 : ∀ w, (Instr.typeAssert (.iface 125 (.pointer (some ⟨g, 0, none⟩))) 52 125 true).run Tryz.prog w = .ok (.tuple #[.pointer (some ⟨g, 0, none⟩), .bool true]) w := fun _ => by kernel_rfl
 have hT := t53
 have hnn : ∀ w, (binOp .eql 52 (.iface 125 (.pointer (some ⟨g, 0, none⟩))) .nilIface).run Tryz.prog w = .ok (.bool false) w := fun w => by kernel_rfl
 obtain ⟨T1, p1, rfl⟩ := d1.iface
 have q1 : ∀ w, (binOp .neq 81 (.iface T1 p1) .nilIface).run Tryz.prog w = .ok (.bool true) w := fun w => by kernel_rfl
 obtain ⟨T2, p2, rfl⟩ := d2.iface
 have q2 : ∀ w, (binOp .neq 81 (.iface T2 p2) .nilIface).run Tryz.prog w = .ok (.bool true) w := fun w => by kernel_rfl
 have q3 : ∀ w, (binOp .neq 81 .nilIface .nilIface).run Tryz.prog w = .ok (.bool false) w := fun w => by kernel_rfl
 have M0 := fun (H : CL w B be bn bl bf few v s) => mid_start 125 (.pointer (some ⟨g, 0, none⟩)) hT H hP h1 he hm hz
 have HM0 := Lib.hid (M0 hC)
 have C0 := Lib.hid c0
 have D0 := Lib.hid d0
 have C1 := Lib.hid c1
 have D1 := Lib.hid d1
 have C2 := Lib.hid c2
 have D2 := Lib.hid d2
 have C3 := Lib.hid c3
 have HW := Lib.hid hW
 have HP := Lib.hid hP
 have HB := Lib.hid hB
 clear M0 hC hW hP hB hz hm h1 he c0 d0 c1 d1 c2 d2 c3
 go_enter Tryz.func15, Tryz.ntmps15
 unfold clo
 go_wp2_with fail
 refine HM0.out.mono ?_
 rintro e w1 ⟨rfl, h⟩
 have HM1 := Lib.hid h
 clear h HM0 hnn
 by_cases hgo : goes few (s.n + 1) = true
 ·rw [hgo]
  have g1 := HM1.out.sees C0.out
  go_wp2_with fail
  refine (Mid.call HW.out HM1.out HB.out D0.out).mono ?_
  rintro e w2 ⟨rfl, h⟩
  have HM2 := Lib.hid h
  clear h g1
  have g2 := HM2.out.sees C1.out
  go_wp2_with fail
  refine (Mid.call HW.out HM2.out HB.out D1.out).mono ?_
  rintro e w3 ⟨rfl, h⟩
  have HM3 := Lib.hid h
  clear h g2
  have g3 := HM3.out.sees C2.out
  go_wp2_with fail
  refine (Mid.call HW.out HM3.out HB.out D2.out).mono ?_
  rintro e w4 ⟨rfl, h⟩
  have HM4 := Lib.hid h
  clear h g3
  have g4 := HM4.out.sees C3.out
  have gx3 := g4
  skip
  clear g4
  go_wp2_with fail
  refine (Mid.ended HM4.out HP.out).mono ?_
  rintro e w9 ⟨rfl, h⟩
  have HF := Lib.hid h
  clear h
  go_wp2
  go_end0
  refine ⟨rfl, ?_⟩
  rw [visit_in hgo]
  simp only [visits, visits_append, Option.toList, List.append_nil]
  exact HF.out
 ·rw [Bool.not_eq_true] at hgo
  rw [hgo]
  go_wp2
  refine bodyPost_ret (results_none rfl _ _ _) rfl ?_
  refine ⟨rfl, ?_⟩
  rw [visit_out hgo]
  simp only [Option.toList, List.append_nil]
  exact HM1.out.leaves
theorem f15_125_yny (P : Nat → Prop) (B be bn bl bf : Nat) (few : Int) (sz : Nat) (hW : WalkAt P B be bn bl bf few sz) (g : Nat) (s : St) (v : Value) (w : World) (x0 : Value) (t0 : Tr) (c0 : Sees w P ⟨g, 1, none⟩ x0) (d0 : Nd (Sees w P) x0 t0) (x1 : Value) (t1 : Tr) (c1 : Sees w P ⟨g, 5, none⟩ x1) (d1 : Nd (Sees w P) x1 t1) (c2 : Sees w P ⟨g, 6, none⟩ .nilIface) (x3 : Value) (t3 : Tr) (c3 : Sees w P ⟨g, 7, none⟩ x3) (d3 : Nd (Sees w P) x3 t3) (hz : (t0.size + (t1.size + (t3.size + 0))) ≤ sz) (hm : s.n + 1 + (t0.size + (t1.size + (t3.size + 0))) ≤ 1000000) (h1 : s.names.length ≤ s.n) (he : s.e ≤ s.n)
  (hC : CL w B be bn bl bf few v s) (hP : Reads P B be bn bl bf) (hB : B ≤ w.heap.size) :
  Calls Tryz.prog 15 #[.iface 125 (.pointer (some ⟨g, 0, none⟩)), clo be bn bl bf] w fun e w' => e = .returned (.tuple #[]) ∧ Leaves P B be bn bl bf few (visit few (.mk none (t0 :: (t1 :: (t3 :: [])))) s) w w' := by
 have t46 : ∀ w, (Instr.typeAssert (.iface 125 (.pointer (some ⟨g, 0, none⟩))) 52 46 true).run Tryz.prog w = .ok (.tuple #[.pointer none, .bool false]) w := fun _ => by kernel_rfl
 have t79 : ∀ w, (Instr.typeAssert (.iface 125 (.pointer (some ⟨g, 0, none⟩))) 52 79 true).run Tryz.prog w = .ok (.tuple #[.pointer none, .bool false]) w := fun _ => by kernel_rfl
 have t84 : ∀ w, (Instr.typeAssert (.iface 125 (.pointer (some ⟨g, 0, none⟩))) 52 84 true).run Tryz.prog w = .ok (.tuple #[.pointer none, .bool false]) w := fun _ => by kernel_rfl
 have t85 : ∀ w, (Instr.typeAssert (.iface 125 (.pointer (some ⟨g, 0, none⟩))) 52 85 true).run Tryz.prog w = .ok (.tuple #[.pointer none, .bool false]) w := fun _ => by kernel_rfl
 have t88 : ∀ w, (Instr.typeAssert (.iface 125 (.pointer (some ⟨g, 0, none⟩))) 52 88 true).run Tryz.prog w = .ok (.tuple #[.pointer none, .bool false]) w := fun _ => by kernel_rfl
 have t93 : ∀ w, (Instr.typeAssert (.iface 125 (.pointer (some ⟨g, 0, none⟩))) 52 93 true).run Tryz.prog w = .ok (.tuple #[.pointer none, .bool false]) w := fun _ => by kernel_rfl
 have t97 : ∀ w, (Instr.typeAssert (.iface 125 (.pointer (some ⟨g, 0, none⟩))) 52 97 true).run Tryz.prog w = .ok (.tuple #[.pointer none, .bool false]) w := fun _ => by kernel_rfl
 have t100 : ∀ w, (Instr.typeAssert (.iface 125 (.pointer (some ⟨g, 0, none⟩))) 52 100 true).run Tryz.prog w = .ok (.tuple #[.pointer none, .bool false]) w := fun _ => by kernel_rfl
 have t103 : ∀ w, (Instr.typeAssert (.iface 125 (.pointer (some ⟨g, 0, none⟩))) 52 103 true).run Tryz.prog w = .ok (.tuple #[.pointer none, .bool false]) w := fun _ => by kernel_rfl
 have t106 : ∀ w, (Instr.typeAssert (.iface 125 (.pointer (some ⟨g, 0, none⟩))) 52 106 true).run Tryz.prog w = .ok (.tuple #[.pointer none, .bool false]) w := fun _ => by kernel_rfl
 have t53 : ∀ w, (Instr.typeAssert (.iface 125 (.pointer (some ⟨g, 0, none⟩))) 52 53 true).run Tryz.prog w = .ok (.tuple #[.pointer none, .bool false]) w := fun _ => by kernel_rfl
 have t107 : ∀ w, (Instr.typeAssert (.iface 125 (.pointer (some ⟨g, 0, none⟩))) 52 107 true).run Tryz.prog w = .ok (.tuple #[.pointer none, .bool false]) w := fun _ => by kernel_rfl
 have t110 : ∀ w, (Instr.typeAssert (.iface 125 (.pointer (some ⟨g, 0, none⟩))) 52 110 true).run Tryz.prog w = .ok (.tuple #[.pointer none, .bool false]) w := fun _ => by kernel_rfl
 have t113 : ∀ w, (Instr.typeAssert (.iface 125 (.pointer (some ⟨g, 0, none⟩))) 52 113 true).run Tryz.prog w = .ok (.tuple #[.pointer none, .bool false]) w := fun _ => by kernel_rfl
 have t116 : ∀ w, (Instr.typeAssert (.iface 125 (.pointer (some ⟨g, 0, none⟩))) 52 116 true).run Tryz.prog w = .ok (.tuple #[.pointer none, .bool false]) w := fun _ => by kernel_rfl
 have t119 : ∀ w, (Instr.typeAssert (.iface 125 (.pointer (some ⟨g, 0, none⟩))) 52 119 true).run Tryz.prog w = .ok (.tuple #[.pointer none, .bool false]) w := fun _ => by kernel_rfl
 have t122 : ∀ w, (Instr.typeAssert (.iface 125 (.pointer (some ⟨g, 0, none⟩))) 52 122 true).run Tryz.prog w = .ok (.tuple #[.pointer none, .bool false]) w := fun _ => by kernel_rfl
 have t125 : ∀ w, (Instr.typeAssert (.iface 125 (.pointer (some ⟨g, 0, none⟩))) 52 125 true).run Tryz.prog w = .ok (.tuple #[.pointer (some ⟨g, 0, none⟩), .bool true]) w := fun _ => by kernel_rfl
 have hT := t53
 have hnn : ∀ w, (binOp .eql 52 (.iface 125 (.pointer (some ⟨g, 0, none⟩))) .nilIface).run Tryz.prog w = .ok (.bool false) w := fun w => by kernel_rfl
 obtain ⟨T1, p1, rfl⟩ := d1.iface
 have q1 : ∀ w, (binOp .neq 81 (.iface T1 p1) .nilIface).run Tryz.prog w = .ok (.bool true) w := fun w => by kernel_rfl
 have q2 : ∀ w, (binOp .neq 81 .nilIface .nilIface).run Tryz.prog w = .ok (.bool false) w := fun w => by kernel_rfl
 obtain ⟨T3, p3, rfl⟩ := d3.iface
 have q3 : ∀ w, (binOp .neq 81 (.iface T3 p3) .nilIface).run Tryz.prog w = .ok (.bool true) w := fun w => by kernel_rfl
 have M0 := fun (H : CL w B be bn bl bf few v s) => mid_start 125 (.pointer (some ⟨g, 0, none⟩)) hT H hP h1 he hm hz
 have HM0 := Lib.hid (M0 hC)
 have C0 := Lib.hid c0
 have D0 := Lib.hid d0
 have C1 := Lib.hid c1
 have D1 := Lib.hid d1
 have C2 := Lib.hid c2
 have C3 := Lib.hid c3
 have D3 := Lib.hid d3
 have HW := Lib.hid hW
 have HP := Lib.hid hP
 have HB := Lib.hid hB
 clear M0 hC hW hP hB hz hm h1 he c0 d0 c1 d1 c2 c3 d3
 go_enter Tryz.func15, Tryz.ntmps15
 unfold clo
 go_wp2_with fail
 refine HM0.out.mono ?_
 rintro e w1 ⟨rfl, h⟩
 have HM1 := Lib.hid h
 clear h HM0 hnn
 by_cases hgo : goes few (s.n + 1) = true
 ·rw [hgo]
  have g1 := HM1.out.sees C0.out
  go_wp2_with fail
  refine (Mid.call HW.out HM1.out HB.out D0.out).mono ?_
  rintro e w2 ⟨rfl, h⟩
  have HM2 := Lib.hid h
  clear h g1
  have g2 := HM2.out.sees C1.out
  go_wp2_with fail
  refine (Mid.call HW.out HM2.out HB.out D1.out).mono ?_
  rintro e w3 ⟨rfl, h⟩
  have HM3 := Lib.hid h
  clear h g2
  have g3 := HM3.out.sees C2.out
  have gx2 := g3
  skip
  clear g3
  have g3 := HM3.out.sees C3.out
  go_wp2_with fail
  refine (Mid.call HW.out HM3.out HB.out D3.out).mono ?_
  rintro e w4 ⟨rfl, h⟩
  have HM4 := Lib.hid h
  clear h g3
  go_wp2_with fail
  refine (Mid.ended HM4.out HP.out).mono ?_
  rintro e w9 ⟨rfl, h⟩
  have HF := Lib.hid h
  clear h
  go_wp2
  go_end0
  refine ⟨rfl, ?_⟩
  rw [visit_in hgo]
  simp only [visits, visits_append, Option.toList, List.append_nil]
  exact HF.out
 ·rw [Bool.not_eq_true] at hgo
  rw [hgo]
  go_wp2
  refine bodyPost_ret (results_none rfl _ _ _) rfl ?_
  refine ⟨rfl, ?_⟩
  rw [visit_out hgo]
  simp only [Option.toList, List.append_nil]
  exact HM1.out.leaves
theorem f15_125_ynn (P : Nat → Prop) (B be bn bl bf : Nat) (few : Int) (sz : Nat) (hW : WalkAt P B be bn bl bf few sz) (g : Nat) (s : St) (v : Value) (w : World) (x0 : Value) (t0 : Tr) (c0 : Sees w P ⟨g, 1, none⟩ x0) (d0 : Nd (Sees w P) x0 t0) (x1 : Value) (t1 : Tr) (c1 : Sees w P ⟨g, 5, none⟩ x1) (d1 : Nd (Sees w P) x1 t1) (c2 : Sees w P ⟨g, 6, none⟩ .nilIface) (c3 : Sees w P ⟨g, 7, none⟩ .nilIface) (hz : (t0.size + (t1.size + 0)) ≤ sz) (hm : s.n + 1 + (t0.size + (t1.size + 0)) ≤ 1000000) (h1 : s.names.length ≤ s.n) (he : s.e ≤ s.n)
  (hC : CL w B be bn bl bf few v s) (hP : Reads P B be bn bl bf) (hB : B ≤ w.heap.size) :
  Calls Tryz.prog 15 #[.iface 125 (.pointer (some ⟨g, 0, none⟩)), clo be bn bl bf] w fun e w' => e = .returned (.tuple #[]) ∧ Leaves P B be bn bl bf few (visit few (.mk none (t0 :: (t1 :: []))) s) w w' := by
 have t46 : ∀ w, (Instr.typeAssert (.iface 125 (.pointer (some ⟨g, 0, none⟩))) 52 46 true).run Tryz.prog w = .ok (.tuple #[.pointer none, .bool false]) w := fun _ => by kernel_rfl
 have t79 : ∀ w, (Instr.typeAssert (.iface 125 (.pointer (some ⟨g, 0, none⟩))) 52 79 true).run Tryz.prog w = .ok (.tuple #[.pointer none, .bool false]) w := fun _ => by kernel_rfl
 have t84 : ∀ w, (Instr.typeAssert (.iface 125 (.pointer (some ⟨g, 0, none⟩))) 52 84 true).run Tryz.prog w = .ok (.tuple #[.pointer none, .bool false]) w := fun _ => by kernel_rfl
 have t85 : ∀ w, (Instr.typeAssert (.iface 125 (.pointer (some ⟨g, 0, none⟩))) 52 85 true).run Tryz.prog w = .ok (.tuple #[.pointer none, .bool false]) w := fun _ => by kernel_rfl
 have t88 : ∀ w, (Instr.typeAssert (.iface 125 (.pointer (some ⟨g, 0, none⟩))) 52 88 true).run Tryz.prog w = .ok (.tuple #[.pointer none, .bool false]) w := fun _ => by kernel_rfl
 have t93 : ∀ w, (Instr.typeAssert (.iface 125 (.pointer (some ⟨g, 0, none⟩))) 52 93 true).run Tryz.prog w = .ok (.tuple #[.pointer none, .bool false]) w := fun _ => by kernel_rfl
 have t97 : ∀ w, (Instr.typeAssert (.iface 125 (.pointer (some ⟨g, 0, none⟩))) 52 97 true).run Tryz.prog w = .ok (.tuple #[.pointer none, .bool false]) w := fun _ => by kernel_rfl
 have t100 : ∀ w, (Instr.typeAssert (.iface 125 (.pointer (some ⟨g, 0, none⟩))) 52 100 true).run Tryz.prog w = .ok (.tuple #[.pointer none, .bool false]) w := fun _ => by kernel_rfl
 have t103 : ∀ w, (Instr.typeAssert (.iface 125 (.pointer (some ⟨g, 0, none⟩))) 52 103 true).run Tryz.prog w = .ok (.tuple #[.pointer none, .bool false]) w := fun _ => by kernel_rfl
 have t106 : ∀ w, (Instr.typeAssert (.iface 125 (.pointer (some ⟨g, 0, none⟩))) 52 106 true).run Tryz.prog w = .ok (.tuple #[.pointer none, .bool false]) w := fun _ => by kernel_rfl
 have t53 : ∀ w, (Instr.typeAssert (.iface 125 (.pointer (some ⟨g, 0, none⟩))) 52 53 true).run Tryz.prog w = .ok (.tuple #[.pointer none, .bool false]) w := fun _ => by kernel_rfl
 have t107 : ∀ w, (Instr.typeAssert (.iface 125 (.pointer (some ⟨g, 0, none⟩))) 52 107 true).run Tryz.prog w = .ok (.tuple #[.pointer none, .bool false]) w := fun _ => by kernel_rfl
 have t110 : ∀ w, (Instr.typeAssert (.iface 125 (.pointer (some ⟨g, 0, none⟩))) 52 110 true).run Tryz.prog w = .ok (.tuple #[.pointer none, .bool false]) w := fun _ => by kernel_rfl
 have t113 : ∀ w, (Instr.typeAssert (.iface 125 (.pointer (some ⟨g, 0, none⟩))) 52 113 true).run Tryz.prog w = .ok (.tuple #[.pointer none, .bool false]) w := fun _ => by kernel_rfl
 have t116 : ∀ w, (Instr.typeAssert (.iface 125 (.pointer (some ⟨g, 0, none⟩))) 52 116 true).run Tryz.prog w = .ok (.tuple #[.pointer none, .bool false]) w := fun _ => by kernel_rfl
 have t119 : ∀ w, (Instr.typeAssert (.iface 125 (.pointer (some ⟨g, 0, none⟩))) 52 119 true).run Tryz.prog w = .ok (.tuple #[.pointer none, .bool false]) w := fun _ => by kernel_rfl
 have t122 : ∀ w, (Instr.typeAssert (.iface 125 (.pointer (some ⟨g, 0, none⟩))) 52 122 true).run Tryz.prog w = .ok (.tuple #[.pointer none, .bool false]) w := fun _ => by kernel_rfl
 have t125 : ∀ w, (Instr.typeAssert (.iface 125 (.pointer (some ⟨g, 0, none⟩))) 52 125 true).run Tryz.prog w = .ok (.tuple #[.pointer (some ⟨g, 0, none⟩), .bool true]) w := fun _ => by kernel_rfl
 have hT := t53
 have hnn : ∀ w, (binOp .eql 52 (.iface 125 (.pointer (some ⟨g, 0, none⟩))) .nilIface).run Tryz.prog w = .ok (.bool false) w := fun w => by kernel_rfl
 obtain ⟨T1, p1, rfl⟩ := d1.iface
 have q1 : ∀ w, (binOp .neq 81 (.iface T1 p1) .nilIface).run Tryz.prog w = .ok (.bool true) w := fun w => by kernel_rfl
 have q2 : ∀ w, (binOp .neq 81 .nilIface .nilIface).run Tryz.prog w = .ok (.bool false) w := fun w => by kernel_rfl
 have q3 : ∀ w, (binOp .neq 81 .nilIface .nilIface).run Tryz.prog w = .ok (.bool false) w := fun w => by kernel_rfl
 have M0 := fun (H : CL w B be bn bl bf few v s) => mid_start 125 (.pointer (some ⟨g, 0, none⟩)) hT H hP h1 he hm hz
 have HM0 := Lib.hid (M0 hC)
 have C0 := Lib.hid c0
 have D0 := Lib.hid d0
 have C1 := Lib.hid c1
 have D1 := Lib.hid d1
 have C2 := Lib.hid c2
 have C3 := Lib.hid c3
 have HW := Lib.hid hW
 have HP := Lib.hid hP
 have HB := Lib.hid hB
 clear M0 hC hW hP hB hz hm h1 he c0 d0 c1 d1 c2 c3
 go_enter Tryz.func15, Tryz.ntmps15
 unfold clo
 go_wp2_with fail
 refine HM0.out.mono ?_
 rintro e w1 ⟨rfl, h⟩
 have HM1 := Lib.hid h
 clear h HM0 hnn
 by_cases hgo : goes few (s.n + 1) = true
 ·rw [hgo]
  have g1 := HM1.out.sees C0.out
  go_wp2_with fail
  refine (Mid.call HW.out HM1.out HB.out D0.out).mono ?_
  rintro e w2 ⟨rfl, h⟩
  have HM2 := Lib.hid h
  clear h g1
  have g2 := HM2.out.sees C1.out
  go_wp2_with fail
  refine (Mid.call HW.out HM2.out HB.out D1.out).mono ?_
  rintro e w3 ⟨rfl, h⟩
  have HM3 := Lib.hid h
  clear h g2
  have g3 := HM3.out.sees C2.out
  have gx2 := g3
  skip
  clear g3
  have g3 := HM3.out.sees C3.out
  have gx3 := g3
  skip
  clear g3
  go_wp2_with fail
  refine (Mid.ended HM3.out HP.out).mono ?_
  rintro e w9 ⟨rfl, h⟩
  have HF := Lib.hid h
  clear h
  go_wp2
  go_end0
  refine ⟨rfl, ?_⟩
  rw [visit_in hgo]
  simp only [visits, visits_append, Option.toList, List.append_nil]
  exact HF.out
 ·rw [Bool.not_eq_true] at hgo
  rw [hgo]
  go_wp2
  refine bodyPost_ret (results_none rfl _ _ _) rfl ?_
  refine ⟨rfl, ?_⟩
  rw [visit_out hgo]
  simp only [Option.toList, List.append_nil]
  exact HM1.out.leaves
theorem f15_125_nyy (P : Nat → Prop) (B be bn bl bf : Nat) (few : Int) (sz : Nat) (hW : WalkAt P B be bn bl bf few sz) (g : Nat) (s : St) (v : Value) (w : World) (x0 : Value) (t0 : Tr) (c0 : Sees w P ⟨g, 1, none⟩ x0) (d0 : Nd (Sees w P) x0 t0) (c1 : Sees w P ⟨g, 5, none⟩ .nilIface) (x2 : Value) (t2 : Tr) (c2 : Sees w P ⟨g, 6, none⟩ x2) (d2 : Nd (Sees w P) x2 t2) (x3 : Value) (t3 : Tr) (c3 : Sees w P ⟨g, 7, none⟩ x3) (d3 : Nd (Sees w P) x3 t3) (hz : (t0.size + (t2.size + (t3.size + 0))) ≤ sz) (hm : s.n + 1 + (t0.size + (t2.size + (t3.size + 0))) ≤ 1000000) (h1 : s.names.length ≤ s.n) (he : s.e ≤ s.n)
  (hC : CL w B be bn bl bf few v s) (hP : Reads P B be bn bl bf) (hB : B ≤ w.heap.size) :
  Calls Tryz.prog 15 #[.iface 125 (.pointer (some ⟨g, 0, none⟩)), clo be bn bl bf] w fun e w' => e = .returned (.tuple #[]) ∧ Leaves P B be bn bl bf few (visit few (.mk none (t0 :: (t2 :: (t3 :: [])))) s) w w' := by
 have t46 : ∀ w, (Instr.typeAssert (.iface 125 (.pointer (some ⟨g, 0, none⟩))) 52 46 true).run Tryz.prog w = .ok (.tuple #[.pointer none, .bool false]) w := fun _ => by kernel_rfl
 have t79 : ∀ w, (Instr.typeAssert (.iface 125 (.pointer (some ⟨g, 0, none⟩))) 52 79 true).run Tryz.prog w = .ok (.tuple #[.pointer none, .bool false]) w := fun _ => by kernel_rfl
 have t84 : ∀ w, (Instr.typeAssert (.iface 125 (.pointer (some ⟨g, 0, none⟩))) 52 84 true).run Tryz.prog w = .ok (.tuple #[.pointer none, .bool false]) w := fun _ => by kernel_rfl
 have t85 : ∀ w, (Instr.typeAssert (.iface 125 (.pointer (some ⟨g, 0, none⟩))) 52 85 true).run Tryz.prog w = .ok (.tuple #[.pointer none, .bool false]) w := fun _ => by kernel_rfl
 have t88 : ∀ w, (Instr.typeAssert (.iface 125 (.pointer (some ⟨g, 0, none⟩))) 52 88 true).run Tryz.prog w = .ok (.tuple #[.pointer none, .bool false]) w := fun _ => by kernel_rfl
 have t93 : ∀ w, (Instr.typeAssert (.iface 125 (.pointer (some ⟨g, 0, none⟩))) 52 93 true).run Tryz.prog w = .ok (.tuple #[.pointer none, .bool false]) w := fun _ => by kernel_rfl
 have t97 : ∀ w, (Instr.typeAssert (.iface 125 (.pointer (some ⟨g, 0, none⟩))) 52 97 true).run Tryz.prog w = .ok (.tuple #[.pointer none, .bool false]) w := fun _ => by kernel_rfl
 have t100 : ∀ w, (Instr.typeAssert (.iface 125 (.pointer (some ⟨g, 0, none⟩))) 52 100 true).run Tryz.prog w = .ok (.tuple #[.pointer none, .bool false]) w := fun _ => by kernel_rfl
 have t103 : ∀ w, (Instr.typeAssert (.iface 125 (.pointer (some ⟨g, 0, none⟩))) 52 103 true).run Tryz.prog w = .ok (.tuple #[.pointer none, .bool false]) w := fun _ => by kernel_rfl
 have t106 : ∀ w, (Instr.typeAssert (.iface 125 (.pointer (some ⟨g, 0, none⟩))) 52 106 true).run Tryz.prog w = .ok (.tuple #[.pointer none, .bool false]) w := fun _ => by kernel_rfl
 have t53 : ∀ w, (Instr.typeAssert (.iface 125 (.pointer (some ⟨g, 0, none⟩))) 52 53 true).run Tryz.prog w = .ok (.tuple #[.pointer none, .bool false]) w := fun _ => by kernel_rfl
 have t107 : ∀ w, (Instr.typeAssert (.iface 125 (.pointer (some ⟨g, 0, none⟩))) 52 107 true).run Tryz.prog w = .ok (.tuple #[.pointer none, .bool false]) w := fun _ => by kernel_rfl
 have t110 : ∀ w, (Instr.typeAssert (.iface 125 (.pointer (some ⟨g, 0, none⟩))) 52 110 true).run Tryz.prog w = .ok (.tuple #[.pointer none, .bool false]) w := fun _ => by kernel_rfl
 have t113 : ∀ w, (Instr.typeAssert (.iface 125 (.pointer (some ⟨g, 0, none⟩))) 52 113 true).run Tryz.prog w = .ok (.tuple #[.pointer none, .bool false]) w := fun _ => by kernel_rfl
 have t116 : ∀ w, (Instr.typeAssert (.iface 125 (.pointer (some ⟨g, 0, none⟩))) 52 116 true).run Tryz.prog w = .ok (.tuple #[.pointer none, .bool false]) w := fun _ => by kernel_rfl
 have t119 : ∀ w, (Instr.typeAssert (.iface 125 (.pointer (some ⟨g, 0, none⟩))) 52 119 true).run Tryz.prog w = .ok (.tuple #[.pointer none, .bool false]) w := fun _ => by kernel_rfl
 have t122 : ∀ w, (Instr.typeAssert (.iface 125 (.pointer (some ⟨g, 0, none⟩))) 52 122 true).run Tryz.prog w = .ok (.tuple #[.pointer none, .bool false]) w := fun _ => by kernel_rfl
 have t125 : ∀ w, (Instr.typeAssert (.iface 125 (.pointer (some ⟨g, 0, none⟩))) 52 125 true).run Tryz.prog w = .ok (.tuple #[.pointer (some ⟨g, 0, none⟩), .bool true]) w := fun _ => by kernel_rfl
 have hT := t53
 have hnn : ∀ w, (binOp .eql 52 (.iface 125 (.pointer (some ⟨g, 0, none⟩))) .nilIface).run Tryz.prog w = .ok (.bool false) w := fun w => by kernel_rfl
 have q1 : ∀ w, (binOp .neq 81 .nilIface .nilIface).run Tryz.prog w = .ok (.bool false) w := fun w => by kernel_rfl
 obtain ⟨T2, p2, rfl⟩ := d2.iface
 have q2 : ∀ w, (binOp .neq 81 (.iface T2 p2) .nilIface).run Tryz.prog w = .ok (.bool true) w := fun w => by kernel_rfl
 obtain ⟨T3, p3, rfl⟩ := d3.iface
 have q3 : ∀ w, (binOp .neq 81 (.iface T3 p3) .nilIface).run Tryz.prog w = .ok (.bool true) w := fun w => by kernel_rfl
 have M0 := fun (H : CL w B be bn bl bf few v s) => mid_start 125 (.pointer (some ⟨g, 0, none⟩)) hT H hP h1 he hm hz
 have HM0 := Lib.hid (M0 hC)
 have C0 := Lib.hid c0
 have D0 := Lib.hid d0
 have C1 := Lib.hid c1
 have C2 := Lib.hid c2
 have D2 := Lib.hid d2
 have C3 := Lib.hid c3
 have D3 := Lib.hid d3
 have HW := Lib.hid hW
 have HP := Lib.hid hP
 have HB := Lib.hid hB
 clear M0 hC hW hP hB hz hm h1 he c0 d0 c1 c2 d2 c3 d3
 go_enter Tryz.func15, Tryz.ntmps15
 unfold clo
 go_wp2_with fail
 refine HM0.out.mono ?_
 rintro e w1 ⟨rfl, h⟩
 have HM1 := Lib.hid h
 clear h HM0 hnn
 by_cases hgo : goes few (s.n + 1) = true
 ·rw [hgo]
  have g1 := HM1.out.sees C0.out
  go_wp2_with fail
  refine (Mid.call HW.out HM1.out HB.out D0.out).mono ?_
  rintro e w2 ⟨rfl, h⟩
  have HM2 := Lib.hid h
  clear h g1
  have g2 := HM2.out.sees C1.out
  have gx1 := g2
  skip
  clear g2
  have g2 := HM2.out.sees C2.out
  go_wp2_with fail
  refine (Mid.call HW.out HM2.out HB.out D2.out).mono ?_
  rintro e w3 ⟨rfl, h⟩
  have HM3 := Lib.hid h
  clear h g2
  have g3 := HM3.out.sees C3.out
  go_wp2_with fail
  refine (Mid.call HW.out HM3.out HB.out D3.out).mono ?_
  rintro e w4 ⟨rfl, h⟩
  have HM4 := Lib.hid h
  clear h g3
  go_wp2_with fail
  refine (Mid.ended HM4.out HP.out).mono ?_
  rintro e w9 ⟨rfl, h⟩
  have HF := Lib.hid h
  clear h
  go_wp2
  go_end0
  refine ⟨rfl, ?_⟩
  rw [visit_in hgo]
  simp only [visits, visits_append, Option.toList, List.append_nil]
  exact HF.out
 ·rw [Bool.not_eq_true] at hgo
  rw [hgo]
  go_wp2
  refine bodyPost_ret (results_none rfl _ _ _) rfl ?_
  refine ⟨rfl, ?_⟩
  rw [visit_out hgo]
  simp only [Option.toList, List.append_nil]
  exact HM1.out.leaves
theorem f15_125_nyn (P : Nat → Prop) (B be bn bl bf : Nat) (few : Int) (sz : Nat) (hW : WalkAt P B be bn bl bf few sz) (g : Nat) (s : St) (v : Value) (w : World) (x0 : Value) (t0 : Tr) (c0 : Sees w P ⟨g, 1, none⟩ x0) (d0 : Nd (Sees w P) x0 t0) (c1 : Sees w P ⟨g, 5, none⟩ .nilIface) (x2 : Value) (t2 : Tr) (c2 : Sees w P ⟨g, 6, none⟩ x2) (d2 : Nd (Sees w P) x2 t2) (c3 : Sees w P ⟨g, 7, none⟩ .nilIface) (hz : (t0.size + (t2.size + 0)) ≤ sz) (hm : s.n + 1 + (t0.size + (t2.size + 0)) ≤ 1000000) (h1 : s.names.length ≤ s.n) (he : s.e ≤ s.n)
  (hC : CL w B be bn bl bf few v s) (hP : Reads P B be bn bl bf) (hB : B ≤ w.heap.size) :
  Calls Tryz.prog 15 #[.iface 125 (.pointer (some ⟨g, 0, none⟩)), clo be bn bl bf] w fun e w' => e = .returned (.tuple #[]) ∧ Leaves P B be bn bl bf few (visit few (.mk none (t0 :: (t2 :: []))) s) w w' := by
 have t46 : ∀ w, (Instr.typeAssert (.iface 125 (.pointer (some ⟨g, 0, none⟩))) 52 46 true).run Tryz.prog w = .ok (.tuple #[.pointer none, .bool false]) w := fun _ => by kernel_rfl
 have t79 : ∀ w, (Instr.typeAssert (.iface 125 (.pointer (some ⟨g, 0, none⟩))) 52 79 true).run Tryz.prog w = .ok (.tuple #[.pointer none, .bool false]) w := fun _ => by kernel_rfl
 have t84 : ∀ w, (Instr.typeAssert (.iface 125 (.pointer (some ⟨g, 0, none⟩))) 52 84 true).run Tryz.prog w = .ok (.tuple #[.pointer none, .bool false]) w := fun _ => by kernel_rfl
 have t85 : ∀ w, (Instr.typeAssert (.iface 125 (.pointer (some ⟨g, 0, none⟩))) 52 85 true).run Tryz.prog w = .ok (.tuple #[.pointer none, .bool false]) w := fun _ => by kernel_rfl
 have t88 : ∀ w, (Instr.typeAssert (.iface 125 (.pointer (some ⟨g, 0, none⟩))) 52 88 true).run Tryz.prog w = .ok (.tuple #[.pointer none, .bool false]) w := fun _ => by kernel_rfl
 have t93 : ∀ w, (Instr.typeAssert (.iface 125 (.pointer (some ⟨g, 0, none⟩))) 52 93 true).run Tryz.prog w = .ok (.tuple #[.pointer none, .bool false]) w := fun _ => by kernel_rfl
 have t97 : ∀ w, (Instr.typeAssert (.iface 125 (.pointer (some ⟨g, 0, none⟩))) 52 97 true).run Tryz.prog w = .ok (.tuple #[.pointer none, .bool false]) w := fun _ => by kernel_rfl
 have t100 : ∀ w, (Instr.typeAssert (.iface 125 (.pointer (some ⟨g, 0, none⟩))) 52 100 true).run Tryz.prog w = .ok (.tuple #[.pointer none, .bool false]) w := fun _ => by kernel_rfl
 have t103 : ∀ w, (Instr.typeAssert (.iface 125 (.pointer (some ⟨g, 0, none⟩))) 52 103 true).run Tryz.prog w = .ok (.tuple #[.pointer none, .bool false]) w := fun _ => by kernel_rfl
 have t106 : ∀ w, (Instr.typeAssert (.iface 125 (.pointer (some ⟨g, 0, none⟩))) 52 106 true).run Tryz.prog w = .ok (.tuple #[.pointer none, .bool false]) w := fun _ => by kernel_rfl
 have t53 : ∀ w, (Instr.typeAssert (.iface 125 (.pointer (some ⟨g, 0, none⟩))) 52 53 true).run Tryz.prog w = .ok (.tuple #[.pointer none, .bool false]) w := fun _ => by kernel_rfl
 have t107 : ∀ w, (Instr.typeAssert (.iface 125 (.pointer (some ⟨g, 0, none⟩))) 52 107 true).run Tryz.prog w = .ok (.tuple #[.pointer none, .bool false]) w := fun _ => by kernel_rfl
 have t110 : ∀ w, (Instr.typeAssert (.iface 125 (.pointer (some ⟨g, 0, none⟩))) 52 110 true).run Tryz.prog w = .ok (.tuple #[.pointer none, .bool false]) w := fun _ => by kernel_rfl
 have t113 : ∀ w, (Instr.typeAssert (.iface 125 (.pointer (some ⟨g, 0, none⟩))) 52 113 true).run Tryz.prog w = .ok (.tuple #[.pointer none, .bool false]) w := fun _ => by kernel_rfl
 have t116 : ∀ w, (Instr.typeAssert (.iface 125 (.pointer (some ⟨g, 0, none⟩))) 52 116 true).run Tryz.prog w = .ok (.tuple #[.pointer none, .bool false]) w := fun _ => by kernel_rfl
 have t119 : ∀ w, (Instr.typeAssert (.iface 125 (.pointer (some ⟨g, 0, none⟩))) 52 119 true).run Tryz.prog w = .ok (.tuple #[.pointer none, .bool false]) w := fun _ => by kernel_rfl
 have t122 : ∀ w, (Instr.typeAssert (.iface 125 (.pointer (some ⟨g, 0, none⟩))) 52 122 true).run Tryz.prog w = .ok (.tuple #[.pointer none, .bool false]) w := fun _ => by kernel_rfl
 have t125 : ∀ w, (Instr.typeAssert (.iface 125 (.pointer (some ⟨g, 0, none⟩))) 52 125 true).run Tryz.prog w = .ok (.tuple #[.pointer (some ⟨g, 0, none⟩), .bool true]) w := fun _ => by kernel_rfl
 have hT := t53
 have hnn : ∀ w, (binOp .eql 52 (.iface 125 (.pointer (some ⟨g, 0, none⟩))) .nilIface).run Tryz.prog w = .ok (.bool false) w := fun w => by kernel_rfl
 have q1 : ∀ w, (binOp .neq 81 .nilIface .nilIface).run Tryz.prog w = .ok (.bool false) w := fun w => by kernel_rfl
 obtain ⟨T2, p2, rfl⟩ := d2.iface
 have q2 : ∀ w, (binOp .neq 81 (.iface T2 p2) .nilIface).run Tryz.prog w = .ok (.bool true) w := fun w => by kernel_rfl
 have q3 : ∀ w, (binOp .neq 81 .nilIface .nilIface).run Tryz.prog w = .ok (.bool false) w := fun w => by kernel_rfl
 have M0 := fun (H : CL w B be bn bl bf few v s) => mid_start 125 (.pointer (some ⟨g, 0, none⟩)) hT H hP h1 he hm hz
 have HM0 := Lib.hid (M0 hC)
 have C0 := Lib.hid c0
 have D0 := Lib.hid d0
 have C1 := Lib.hid c1
 have C2 := Lib.hid c2
 have D2 := Lib.hid d2
 have C3 := Lib.hid c3
 have HW := Lib.hid hW
 have HP := Lib.hid hP
 have HB := Lib.hid hB
 clear M0 hC hW hP hB hz hm h1 he c0 d0 c1 c2 d2 c3
 go_enter Tryz.func15, Tryz.ntmps15
 unfold clo
 go_wp2_with fail
 refine HM0.out.mono ?_
 rintro e w1 ⟨rfl, h⟩
 have HM1 := Lib.hid h
 clear h HM0 hnn
 by_cases hgo : goes few (s.n + 1) = true
 ·rw [hgo]
  have g1 := HM1.out.sees C0.out
  go_wp2_with fail
  refine (Mid.call HW.out HM1.out HB.out D0.out).mono ?_
  rintro e w2 ⟨rfl, h⟩
  have HM2 := Lib.hid h
  clear h g1
  have g2 := HM2.out.sees C1.out
  have gx1 := g2
  skip
  clear g2
  have g2 := HM2.out.sees C2.out
  go_wp2_with fail
  refine (Mid.call HW.out HM2.out HB.out D2.out).mono ?_
  rintro e w3 ⟨rfl, h⟩
  have HM3 := Lib.hid h
  clear h g2
  have g3 := HM3.out.sees C3.out
  have gx3 := g3
  skip
  clear g3
  go_wp2_with fail
  refine (Mid.ended HM3.out HP.out).mono ?_
  rintro e w9 ⟨rfl, h⟩
  have HF := Lib.hid h
  clear h
  go_wp2
  go_end0
  refine ⟨rfl, ?_⟩
  rw [visit_in hgo]
  simp only [visits, visits_append, Option.toList, List.append_nil]
  exact HF.out
 ·rw [Bool.not_eq_true] at hgo
  rw [hgo]
  go_wp2
  refine bodyPost_ret (results_none rfl _ _ _) rfl ?_
  refine ⟨rfl, ?_⟩
  rw [visit_out hgo]
  simp only [Option.toList, List.append_nil]
  exact HM1.out.leaves
theorem f15_125_nny (P : Nat → Prop) (B be bn bl bf : Nat) (few : Int) (sz : Nat) (hW : WalkAt P B be bn bl bf few sz) (g : Nat) (s : St) (v : Value) (w : World) (x0 : Value) (t0 : Tr) (c0 : Sees w P ⟨g, 1, none⟩ x0) (d0 : Nd (Sees w P) x0 t0) (c1 : Sees w P ⟨g, 5, none⟩ .nilIface) (c2 : Sees w P ⟨g, 6, none⟩ .nilIface) (x3 : Value) (t3 : Tr) (c3 : Sees w P ⟨g, 7, none⟩ x3) (d3 : Nd (Sees w P) x3 t3) (hz : (t0.size + (t3.size + 0)) ≤ sz) (hm : s.n + 1 + (t0.size + (t3.size + 0)) ≤ 1000000) (h1 : s.names.length ≤ s.n) (he : s.e ≤ s.n)
  (hC : CL w B be bn bl bf few v s) (hP : Reads P B be bn bl bf) (hB : B ≤ w.heap.size) :
  Calls Tryz.prog 15 #[.iface 125 (.pointer (some ⟨g, 0, none⟩)), clo be bn bl bf] w fun e w' => e = .returned (.tuple #[]) ∧ Leaves P B be bn bl bf few (visit few (.mk none (t0 :: (t3 :: []))) s) w w' := by
 have t46 : ∀ w, (Instr.typeAssert (.iface 125 (.pointer (some ⟨g, 0, none⟩))) 52 46 true).run Tryz.prog w = .ok (.tuple #[.pointer none, .bool false]) w := fun _ => by kernel_rfl
 have t79 : ∀ w, (Instr.typeAssert (.iface 125 (.pointer (some ⟨g, 0, none⟩))) 52 79 true).run Tryz.prog w = .ok (.tuple #[.pointer none, .bool false]) w := fun _ => by kernel_rfl
 have t84 : ∀ w, (Instr.typeAssert (.iface 125 (.pointer (some ⟨g, 0, none⟩))) 52 84 true).run Tryz.prog w = .ok (.tuple #[.pointer none, .bool false]) w := fun _ => by kernel_rfl
 have t85 : ∀ w, (Instr.typeAssert (.iface 125 (.pointer (some ⟨g, 0, none⟩))) 52 85 true).run Tryz.prog w = .ok (.tuple #[.pointer none, .bool false]) w := fun _ => by kernel_rfl
 have t88 : ∀ w, (Instr.typeAssert (.iface 125 (.pointer (some ⟨g, 0, none⟩))) 52 88 true).run Tryz.prog w = .ok (.tuple #[.pointer none, .bool false]) w := fun _ => by kernel_rfl
 have t93 : ∀ w, (Instr.typeAssert (.iface 125 (.pointer (some ⟨g, 0, none⟩))) 52 93 true).run Tryz.prog w = .ok (.tuple #[.pointer none, .bool false]) w := fun _ => by kernel_rfl
 have t97 : ∀ w, (Instr.typeAssert (.iface 125 (.pointer (some ⟨g, 0, none⟩))) 52 97 true).run Tryz.prog w = .ok (.tuple #[.pointer none, .bool false]) w := fun _ => by kernel_rfl
 have t100 : ∀ w, (Instr.typeAssert (.iface 125 (.pointer (some ⟨g, 0, none⟩))) 52 100 true).run Tryz.prog w = .ok (.tuple #[.pointer none, .bool false]) w := fun _ => by kernel_rfl
 have t103 : ∀ w, (Instr.typeAssert (.iface 125 (.pointer (some ⟨g, 0, none⟩))) 52 103 true).run Tryz.prog w = .ok (.tuple #[.pointer none, .bool false]) w := fun _ => by kernel_rfl
 have t106 : ∀ w, (Instr.typeAssert (.iface 125 (.pointer (some ⟨g, 0, none⟩))) 52 106 true).run Tryz.prog w = .ok (.tuple #[.pointer none, .bool false]) w := fun _ => by kernel_rfl
 have t53 : ∀ w, (Instr.typeAssert (.iface 125 (.pointer (some ⟨g, 0, none⟩))) 52 53 true).run Tryz.prog w = .ok (.tuple #[.pointer none, .bool false]) w := fun _ => by kernel_rfl
 have t107 : ∀ w, (Instr.typeAssert (.iface 125 (.pointer (some ⟨g, 0, none⟩))) 52 107 true).run Tryz.prog w = .ok (.tuple #[.pointer none, .bool false]) w := fun _ => by kernel_rfl
 have t110 : ∀ w, (Instr.typeAssert (.iface 125 (.pointer (some ⟨g, 0, none⟩))) 52 110 true).run Tryz.prog w = .ok (.tuple #[.pointer none, .bool false]) w := fun _ => by kernel_rfl
 have t113 : ∀ w, (Instr.typeAssert (.iface 125 (.pointer (some ⟨g, 0, none⟩))) 52 113 true).run Tryz.prog w = .ok (.tuple #[.pointer none, .bool false]) w := fun _ => by kernel_rfl
 have t116 : ∀ w, (Instr.typeAssert (.iface 125 (.pointer (some ⟨g, 0, none⟩))) 52 116 true).run Tryz.prog w = .ok (.tuple #[.pointer none, .bool false]) w := fun _ => by kernel_rfl
 have t119 : ∀ w, (Instr.typeAssert (.iface 125 (.pointer (some ⟨g, 0, none⟩))) 52 119 true).run Tryz.prog w = .ok (.tuple #[.pointer none, .bool false]) w := fun _ => by kernel_rfl
 have t122 : ∀ w, (Instr.typeAssert (.iface 125 (.pointer (some ⟨g, 0, none⟩))) 52 122 true).run Tryz.prog w = .ok (.tuple #[.pointer none, .bool false]) w := fun _ => by kernel_rfl
 have t125 : ∀ w, (Instr.typeAssert (.iface 125 (.pointer (some ⟨g, 0, none⟩))) 52 125 true).run Tryz.prog w = .ok (.tuple #[.pointer (some ⟨g, 0, none⟩), .bool true]) w := fun _ => by kernel_rfl
 have hT := t53
 have hnn : ∀ w, (binOp .eql 52 (.iface 125 (.pointer (some ⟨g, 0, none⟩))) .nilIface).run Tryz.prog w = .ok (.bool false) w := fun w => by kernel_rfl
 have q1 : ∀ w, (binOp .neq 81 .nilIface .nilIface).run Tryz.prog w = .ok (.bool false) w := fun w => by kernel_rfl
 have q2 : ∀ w, (binOp .neq 81 .nilIface .nilIface).run Tryz.prog w = .ok (.bool false) w := fun w => by kernel_rfl
 obtain ⟨T3, p3, rfl⟩ := d3.iface
 have q3 : ∀ w, (binOp .neq 81 (.iface T3 p3) .nilIface).run Tryz.prog w = .ok (.bool true) w := fun w => by kernel_rfl
 have M0 := fun (H : CL w B be bn bl bf few v s) => mid_start 125 (.pointer (some ⟨g, 0, none⟩)) hT H hP h1 he hm hz
 have HM0 := Lib.hid (M0 hC)
 have C0 := Lib.hid c0
 have D0 := Lib.hid d0
 have C1 := Lib.hid c1
 have C2 := Lib.hid c2
 have C3 := Lib.hid c3
 have D3 := Lib.hid d3
 have HW := Lib.hid hW
 have HP := Lib.hid hP
 have HB := Lib.hid hB
 clear M0 hC hW hP hB hz hm h1 he c0 d0 c1 c2 c3 d3
 go_enter Tryz.func15, Tryz.ntmps15
 unfold clo
 go_wp2_with fail
 refine HM0.out.mono ?_
 rintro e w1 ⟨rfl, h⟩
 have HM1 := Lib.hid h
 clear h HM0 hnn
 by_cases hgo : goes few (s.n + 1) = true
 ·rw [hgo]
  have g1 := HM1.out.sees C0.out
  go_wp2_with fail
  refine (Mid.call HW.out HM1.out HB.out D0.out).mono ?_
  rintro e w2 ⟨rfl, h⟩
  have HM2 := Lib.hid h
  clear h g1
  have g2 := HM2.out.sees C1.out
  have gx1 := g2
  skip
  clear g2
  have g2 := HM2.out.sees C2.out
  have gx2 := g2
  skip
  clear g2
  have g2 := HM2.out.sees C3.out
  go_wp2_with fail
  refine (Mid.call HW.out HM2.out HB.out D3.out).mono ?_
  rintro e w3 ⟨rfl, h⟩
  have HM3 := Lib.hid h
  clear h g2
  go_wp2_with fail
  refine (Mid.ended HM3.out HP.out).mono ?_
  rintro e w9 ⟨rfl, h⟩
  have HF := Lib.hid h
  clear h
  go_wp2
  go_end0
  refine ⟨rfl, ?_⟩
  rw [visit_in hgo]
  simp only [visits, visits_append, Option.toList, List.append_nil]
  exact HF.out
 ·rw [Bool.not_eq_true] at hgo
  rw [hgo]
  go_wp2
  refine bodyPost_ret (results_none rfl _ _ _) rfl ?_
  refine ⟨rfl, ?_⟩
  rw [visit_out hgo]
  simp only [Option.toList, List.append_nil]
  exact HM1.out.leaves
theorem f15_125_nnn (P : Nat → Prop) (B be bn bl bf : Nat) (few : Int) (sz : Nat) (hW : WalkAt P B be bn bl bf few sz) (g : Nat) (s : St) (v : Value) (w : World) (x0 : Value) (t0 : Tr) (c0 : Sees w P ⟨g, 1, none⟩ x0) (d0 : Nd (Sees w P) x0 t0) (c1 : Sees w P ⟨g, 5, none⟩ .nilIface) (c2 : Sees w P ⟨g, 6, none⟩ .nilIface) (c3 : Sees w P ⟨g, 7, none⟩ .nilIface) (hz : (t0.size + 0) ≤ sz) (hm : s.n + 1 + (t0.size + 0) ≤ 1000000) (h1 : s.names.length ≤ s.n) (he : s.e ≤ s.n)
  (hC : CL w B be bn bl bf few v s) (hP : Reads P B be bn bl bf) (hB : B ≤ w.heap.size) :
  Calls Tryz.prog 15 #[.iface 125 (.pointer (some ⟨g, 0, none⟩)), clo be bn bl bf] w fun e w' => e = .returned (.tuple #[]) ∧ Leaves P B be bn bl bf few (visit few (.mk none (t0 :: [])) s) w w' := by
 have t46 : ∀ w, (Instr.typeAssert (.iface 125 (.pointer (some ⟨g, 0, none⟩))) 52 46 true).run Tryz.prog w = .ok (.tuple #[.pointer none, .bool false]) w := fun _ => by kernel_rfl
 have t79 : ∀ w, (Instr.typeAssert (.iface 125 (.pointer (some ⟨g, 0, none⟩))) 52 79 true).run Tryz.prog w = .ok (.tuple #[.pointer none, .bool false]) w := fun _ => by kernel_rfl
 have t84 : ∀ w, (Instr.typeAssert (.iface 125 (.pointer (some ⟨g, 0, none⟩))) 52 84 true).run Tryz.prog w = .ok (.tuple #[.pointer none, .bool false]) w := fun _ => by kernel_rfl
 have t85 : ∀ w, (Instr.typeAssert (.iface 125 (.pointer (some ⟨g, 0, none⟩))) 52 85 true).run Tryz.prog w = .ok (.tuple #[.pointer none, .bool false]) w := fun _ => by kernel_rfl
 have t88 : ∀ w, (Instr.typeAssert (.iface 125 (.pointer (some ⟨g, 0, none⟩))) 52 88 true).run Tryz.prog w = .ok (.tuple #[.pointer none, .bool false]) w := fun _ => by kernel_rfl
 have t93 : ∀ w, (Instr.typeAssert (.iface 125 (.pointer (some ⟨g, 0, none⟩))) 52 93 true).run Tryz.prog w = .ok (.tuple #[.pointer none, .bool false]) w := fun _ => by kernel_rfl
 have t97 : ∀ w, (Instr.typeAssert (.iface 125 (.pointer (some ⟨g, 0, none⟩))) 52 97 true).run Tryz.prog w = .ok (.tuple #[.pointer none, .bool false]) w := fun _ => by kernel_rfl
 have t100 : ∀ w, (Instr.typeAssert (.iface 125 (.pointer (some ⟨g, 0, none⟩))) 52 100 true).run Tryz.prog w = .ok (.tuple #[.pointer none, .bool false]) w := fun _ => by kernel_rfl
 have t103 : ∀ w, (Instr.typeAssert (.iface 125 (.pointer (some ⟨g, 0, none⟩))) 52 103 true).run Tryz.prog w = .ok (.tuple #[.pointer none, .bool false]) w := fun _ => by kernel_rfl
 have t106 : ∀ w, (Instr.typeAssert (.iface 125 (.pointer (some ⟨g, 0, none⟩))) 52 106 true).run Tryz.prog w = .ok (.tuple #[.pointer none, .bool false]) w := fun _ => by kernel_rfl
 have t53 : ∀ w, (Instr.typeAssert (.iface 125 (.pointer (some ⟨g, 0, none⟩))) 52 53 true).run Tryz.prog w = .ok (.tuple #[.pointer none, .bool false]) w := fun _ => by kernel_rfl
 have t107 : ∀ w, (Instr.typeAssert (.iface 125 (.pointer (some ⟨g, 0, none⟩))) 52 107 true).run Tryz.prog w = .ok (.tuple #[.pointer none, .bool false]) w := fun _ => by kernel_rfl
 have t110 : ∀ w, (Instr.typeAssert (.iface 125 (.pointer (some ⟨g, 0, none⟩))) 52 110 true).run Tryz.prog w = .ok (.tuple #[.pointer none, .bool false]) w := fun _ => by kernel_rfl
 have t113 : ∀ w, (Instr.typeAssert (.iface 125 (.pointer (some ⟨g, 0, none⟩))) 52 113 true).run Tryz.prog w = .ok (.tuple #[.pointer none, .bool false]) w := fun _ => by kernel_rfl
 have t116 : ∀ w, (Instr.typeAssert (.iface 125 (.pointer (some ⟨g, 0, none⟩))) 52 116 true).run Tryz.prog w = .ok (.tuple #[.pointer none, .bool false]) w := fun _ => by kernel_rfl
 have t119 : ∀ w, (Instr.typeAssert (.iface 125 (.pointer (some ⟨g, 0, none⟩))) 52 119 true).run Tryz.prog w = .ok (.tuple #[.pointer none, .bool false]) w := fun _ => by kernel_rfl
 have t122 : ∀ w, (Instr.typeAssert (.iface 125 (.pointer (some ⟨g, 0, none⟩))) 52 122 true).run Tryz.prog w = .ok (.tuple #[.pointer none, .bool false]) w := fun _ => by kernel_rfl
 have t125 : ∀ w, (Instr.typeAssert (.iface 125 (.pointer (some ⟨g, 0, none⟩))) 52 125 true).run Tryz.prog w = .ok (.tuple #[.pointer (some ⟨g, 0, none⟩), .bool true]) w := fun _ => by kernel_rfl
 have hT := t53
 have hnn : ∀ w, (binOp .eql 52 (.iface 125 (.pointer (some ⟨g, 0, none⟩))) .nilIface).run Tryz.prog w = .ok (.bool false) w := fun w => by kernel_rfl
 have q1 : ∀ w, (binOp .neq 81 .nilIface .nilIface).run Tryz.prog w = .ok (.bool false) w := fun w => by kernel_rfl
 have q2 : ∀ w, (binOp .neq 81 .nilIface .nilIface).run Tryz.prog w = .ok (.bool false) w := fun w => by kernel_rfl
 have q3 : ∀ w, (binOp .neq 81 .nilIface .nilIface).run Tryz.prog w = .ok (.bool false) w := fun w => by kernel_rfl
 have M0 := fun (H : CL w B be bn bl bf few v s) => mid_start 125 (.pointer (some ⟨g, 0, none⟩)) hT H hP h1 he hm hz
 have HM0 := Lib.hid (M0 hC)
 have C0 := Lib.hid c0
 have D0 := Lib.hid d0
 have C1 := Lib.hid c1
 have C2 := Lib.hid c2
 have C3 := Lib.hid c3
 have HW := Lib.hid hW
 have HP := Lib.hid hP
 have HB := Lib.hid hB
 clear M0 hC hW hP hB hz hm h1 he c0 d0 c1 c2 c3
 go_enter Tryz.func15, Tryz.ntmps15
 unfold clo
 go_wp2_with fail
 refine HM0.out.mono ?_
 rintro e w1 ⟨rfl, h⟩
 have HM1 := Lib.hid h
 clear h HM0 hnn
 by_cases hgo : goes few (s.n + 1) = true
 ·rw [hgo]
  have g1 := HM1.out.sees C0.out
  go_wp2_with fail
  refine (Mid.call HW.out HM1.out HB.out D0.out).mono ?_
  rintro e w2 ⟨rfl, h⟩
  have HM2 := Lib.hid h
  clear h g1
  have g2 := HM2.out.sees C1.out
  have gx1 := g2
  skip
  clear g2
  have g2 := HM2.out.sees C2.out
  have gx2 := g2
  skip
  clear g2
  have g2 := HM2.out.sees C3.out
  have gx3 := g2
  skip
  clear g2
  go_wp2_with fail
  refine (Mid.ended HM2.out HP.out).mono ?_
  rintro e w9 ⟨rfl, h⟩
  have HF := Lib.hid h
  clear h
  go_wp2
  go_end0
  refine ⟨rfl, ?_⟩
  rw [visit_in hgo]
  simp only [visits, visits_append, Option.toList, List.append_nil]
  exact HF.out
 ·rw [Bool.not_eq_true] at hgo
  rw [hgo]
  go_wp2
  refine bodyPost_ret (results_none rfl _ _ _) rfl ?_
  refine ⟨rfl, ?_⟩
  rw [visit_out hgo]
  simp only [Option.toList, List.append_nil]
  exact HM1.out.leaves
end Go.Proofs.YtabeokminikfdaaGreat
