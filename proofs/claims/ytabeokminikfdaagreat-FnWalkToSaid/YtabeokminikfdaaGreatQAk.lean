import Derived.Test.YtabeokminikfdaaGreatQA3
set_option linter.all false
set_option maxRecDepth 100000
set_option maxHeartbeats 4000000
namespace Go.Proofs.YtabeokminikfdaaGreat
open Go.RowKit
theorem f15_46 (P : Nat → Prop) (B be bn bl bf : Nat) (few : Int) (sz : Nat) (hW : WalkAt P B be bn bl bf few sz) (g : Nat) (s : St) (v : Value) (w : World) (a0 : Option Addr) (n0 m0 : Nat) (r0 : List Tr) (c0 : Sees w P ⟨g, 2, none⟩ (.slice a0 n0 m0)) (d0 : Nds (Sees w P) 0 a0 r0) (e0 : n0 = r0.length) (hz : (sizes r0 + 0) ≤ sz) (hm : s.n + 1 + (sizes r0 + 0) ≤ 1000000) (h1 : s.names.length ≤ s.n) (he : s.e ≤ s.n)
  (hC : CL w B be bn bl bf few v s) (hP : Reads P B be bn bl bf) (hB : B ≤ w.heap.size) :
  Calls Tryz.prog 15 #[.iface 46 (.pointer (some ⟨g, 0, none⟩)), clo be bn bl bf] w fun e w' => e = .returned (.tuple #[]) ∧ Leaves P B be bn bl bf few (visit few (.mk none (r0 ++ [])) s) w w' := by
 have t46 : ∀ w, (Instr.typeAssert (.iface 46 (.pointer (some ⟨g, 0, none⟩))) 52 46 true).run Tryz.prog w = .ok (.tuple #[.pointer (some ⟨g, 0, none⟩), .bool true]) w := fun _ => by kernel_rfl
 have hT : ∀ w, (Instr.typeAssert (.iface 46 (.pointer (some ⟨g, 0, none⟩))) 52 53 true).run Tryz.prog w = .ok (.tuple #[.pointer none, .bool false]) w := fun _ => by kernel_rfl
 have hnn : ∀ w, (binOp .eql 52 (.iface 46 (.pointer (some ⟨g, 0, none⟩))) .nilIface).run Tryz.prog w = .ok (.bool false) w := fun w => by kernel_rfl
 subst e0
 have M0 := fun (H : CL w B be bn bl bf few v s) => mid_start 46 (.pointer (some ⟨g, 0, none⟩)) hT H hP h1 he hm hz
 have HM0 := Lib.hid (M0 hC)
 have C0 := Lib.hid c0
 have D0 := Lib.hid d0
 have HW := Lib.hid hW
 have HP := Lib.hid hP
 have HB := Lib.hid hB
 clear M0 hC hW hP hB hz hm h1 he c0 d0
 go_enter Tryz.func15, Tryz.ntmps15
 unfold clo
 go_wp2_with fail
 refine HM0.out.mono ?_
 rintro e w1 ⟨rfl, h⟩
 have HM1 := Lib.hid h
 clear h HM0 hnn
 by_cases hgo : goes few (s.n + 1) = true
 ·rw [hgo]
  have g1 := HM1.out.sees C0.out
  go_wp2_with fail
  refine (Mid.rows HW.out HM1.out HB.out rfl D0.out).mono ?_
  rintro e w2 ⟨rfl, h⟩
  have HM2 := Lib.hid h
  clear h g1
  go_wp2_with fail
  refine (Mid.ended HM2.out HP.out).mono ?_
  rintro e w9 ⟨rfl, h⟩
  have HF := Lib.hid h
  clear h
  go_wp2
  go_end0
  refine ⟨rfl, ?_⟩
  rw [visit_in hgo]
  simp only [visits, visits_append, Option.toList, List.append_nil]
  exact HF.out
 ·rw [Bool.not_eq_true] at hgo
  rw [hgo]
  go_wp2
  refine bodyPost_ret (results_none rfl _ _ _) rfl ?_
  refine ⟨rfl, ?_⟩
  rw [visit_out hgo]
  simp only [Option.toList, List.append_nil]
  exact HM1.out.leaves
theorem f15_79 (P : Nat → Prop) (B be bn bl bf : Nat) (few : Int) (sz : Nat) (hW : WalkAt P B be bn bl bf few sz) (g : Nat) (s : St) (v : Value) (w : World) (x0 : Value) (t0 : Tr) (c0 : Sees w P ⟨g, 1, none⟩ x0) (d0 : Nd (Sees w P) x0 t0) (hz : (t0.size + 0) ≤ sz) (hm : s.n + 1 + (t0.size + 0) ≤ 1000000) (h1 : s.names.length ≤ s.n) (he : s.e ≤ s.n)
  (hC : CL w B be bn bl bf few v s) (hP : Reads P B be bn bl bf) (hB : B ≤ w.heap.size) :
  Calls Tryz.prog 15 #[.iface 79 (.pointer (some ⟨g, 0, none⟩)), clo be bn bl bf] w fun e w' => e = .returned (.tuple #[]) ∧ Leaves P B be bn bl bf few (visit few (.mk none (t0 :: [])) s) w w' := by
 have t46 : ∀ w, (Instr.typeAssert (.iface 79 (.pointer (some ⟨g, 0, none⟩))) 52 46 true).run Tryz.prog w = .ok (.tuple #[.pointer none, .bool false]) w := fun _ => by kernel_rfl
 have t79 : ∀ w, (Instr.typeAssert (.iface 79 (.pointer (some ⟨g, 0, none⟩))) 52 79 true).run Tryz.prog w = .ok (.tuple #[.pointer (some ⟨g, 0, none⟩), .bool true]) w := fun _ => by kernel_rfl
 have hT : ∀ w, (Instr.typeAssert (.iface 79 (.pointer (some ⟨g, 0, none⟩))) 52 53 true).run Tryz.prog w = .ok (.tuple #[.pointer none, .bool false]) w := fun _ => by kernel_rfl
 have hnn : ∀ w, (binOp .eql 52 (.iface 79 (.pointer (some ⟨g, 0, none⟩))) .nilIface).run Tryz.prog w = .ok (.bool false) w := fun w => by kernel_rfl
 have M0 := fun (H : CL w B be bn bl bf few v s) => mid_start 79 (.pointer (some ⟨g, 0, none⟩)) hT H hP h1 he hm hz
 have HM0 := Lib.hid (M0 hC)
 have C0 := Lib.hid c0
 have D0 := Lib.hid d0
 have HW := Lib.hid hW
 have HP := Lib.hid hP
 have HB := Lib.hid hB
 clear M0 hC hW hP hB hz hm h1 he c0 d0
 go_enter Tryz.func15, Tryz.ntmps15
 unfold clo
 go_wp2_with fail
 refine HM0.out.mono ?_
 rintro e w1 ⟨rfl, h⟩
 have HM1 := Lib.hid h
 clear h HM0 hnn
 by_cases hgo : goes few (s.n + 1) = true
 ·rw [hgo]
  have g1 := HM1.out.sees C0.out
  go_wp2_with fail
  refine (Mid.call HW.out HM1.out HB.out D0.out).mono ?_
  rintro e w2 ⟨rfl, h⟩
  have HM2 := Lib.hid h
  clear h g1
  go_wp2_with fail
  refine (Mid.ended HM2.out HP.out).mono ?_
  rintro e w9 ⟨rfl, h⟩
  have HF := Lib.hid h
  clear h
  go_wp2
  go_end0
  refine ⟨rfl, ?_⟩
  rw [visit_in hgo]
  simp only [visits, visits_append, Option.toList, List.append_nil]
  exact HF.out
 ·rw [Bool.not_eq_true] at hgo
  rw [hgo]
  go_wp2
  refine bodyPost_ret (results_none rfl _ _ _) rfl ?_
  refine ⟨rfl, ?_⟩
  rw [visit_out hgo]
  simp only [Option.toList, List.append_nil]
  exact HM1.out.leaves
theorem f15_84 (P : Nat → Prop) (B be bn bl bf : Nat) (few : Int) (sz : Nat) (hW : WalkAt P B be bn bl bf few sz) (g : Nat) (s : St) (v : Value) (w : World)  (hz : 0 ≤ sz) (hm : s.n + 1 + 0 ≤ 1000000) (h1 : s.names.length ≤ s.n) (he : s.e ≤ s.n)
  (hC : CL w B be bn bl bf few v s) (hP : Reads P B be bn bl bf) (hB : B ≤ w.heap.size) :
  Calls Tryz.prog 15 #[.iface 84 (.pointer (some ⟨g, 0, none⟩)), clo be bn bl bf] w fun e w' => e = .returned (.tuple #[]) ∧ Leaves P B be bn bl bf few (visit few (.mk none []) s) w w' := by
 have t46 : ∀ w, (Instr.typeAssert (.iface 84 (.pointer (some ⟨g, 0, none⟩))) 52 46 true).run Tryz.prog w = .ok (.tuple #[.pointer none, .bool false]) w := fun _ => by kernel_rfl
 have t79 : ∀ w, (Instr.typeAssert (.iface 84 (.pointer (some ⟨g, 0, none⟩))) 52 79 true).run Tryz.prog w = .ok (.tuple #[.pointer none, .bool false]) w := fun _ => by kernel_rfl
 have t84 : ∀ w, (Instr.typeAssert (.iface 84 (.pointer (some ⟨g, 0, none⟩))) 52 84 true).run Tryz.prog w = .ok (.tuple #[.pointer (some ⟨g, 0, none⟩), .bool true]) w := fun _ => by kernel_rfl
 have hT : ∀ w, (Instr.typeAssert (.iface 84 (.pointer (some ⟨g, 0, none⟩))) 52 53 true).run Tryz.prog w = .ok (.tuple #[.pointer none, .bool false]) w := fun _ => by kernel_rfl
 have hnn : ∀ w, (binOp .eql 52 (.iface 84 (.pointer (some ⟨g, 0, none⟩))) .nilIface).run Tryz.prog w = .ok (.bool false) w := fun w => by kernel_rfl
 have M0 := fun (H : CL w B be bn bl bf few v s) => mid_start 84 (.pointer (some ⟨g, 0, none⟩)) hT H hP h1 he hm hz
 have HM0 := Lib.hid (M0 hC)
 have HW := Lib.hid hW
 have HP := Lib.hid hP
 have HB := Lib.hid hB
 clear M0 hC hW hP hB hz hm h1 he 
 go_enter Tryz.func15, Tryz.ntmps15
 unfold clo
 go_wp2_with fail
 refine HM0.out.mono ?_
 rintro e w1 ⟨rfl, h⟩
 have HM1 := Lib.hid h
 clear h HM0 hnn
 by_cases hgo : goes few (s.n + 1) = true
 ·rw [hgo]
  go_wp2_with fail
  refine (Mid.ended HM1.out HP.out).mono ?_
  rintro e w9 ⟨rfl, h⟩
  have HF := Lib.hid h
  clear h
  go_wp2
  go_end0
  refine ⟨rfl, ?_⟩
  rw [visit_in hgo]
  simp only [visits, visits_append, Option.toList, List.append_nil]
  exact HF.out
 ·rw [Bool.not_eq_true] at hgo
  rw [hgo]
  go_wp2
  refine bodyPost_ret (results_none rfl _ _ _) rfl ?_
  refine ⟨rfl, ?_⟩
  rw [visit_out hgo]
  simp only [Option.toList, List.append_nil]
  exact HM1.out.leaves
theorem f15_85 (P : Nat → Prop) (B be bn bl bf : Nat) (few : Int) (sz : Nat) (hW : WalkAt P B be bn bl bf few sz) (g : Nat) (s : St) (v : Value) (w : World) (x0 : Value) (t0 : Tr) (c0 : Sees w P ⟨g, 4, none⟩ x0) (d0 : Nd (Sees w P) x0 t0) (a1 : Option Addr) (n1 m1 : Nat) (r1 : List Tr) (c1 : Sees w P ⟨g, 5, none⟩ (.slice a1 n1 m1)) (d1 : Nds (Sees w P) 0 a1 r1) (e1 : n1 = r1.length) (a2 : Option Addr) (n2 m2 : Nat) (r2 : List Tr) (c2 : Sees w P ⟨g, 9, none⟩ (.slice a2 n2 m2)) (d2 : Nds (Sees w P) 0 a2 r2) (e2 : n2 = r2.length) (hz : (t0.size + (sizes r1 + (sizes r2 + 0))) ≤ sz) (hm : s.n + 1 + (t0.size + (sizes r1 + (sizes r2 + 0))) ≤ 1000000) (h1 : s.names.length ≤ s.n) (he : s.e ≤ s.n)
  (hC : CL w B be bn bl bf few v s) (hP : Reads P B be bn bl bf) (hB : B ≤ w.heap.size) :
  Calls Tryz.prog 15 #[.iface 85 (.pointer (some ⟨g, 0, none⟩)), clo be bn bl bf] w fun e w' => e = .returned (.tuple #[]) ∧ Leaves P B be bn bl bf few (visit few (.mk none (t0 :: (r1 ++ (r2 ++ [])))) s) w w' := by
 have t46 : ∀ w, (Instr.typeAssert (.iface 85 (.pointer (some ⟨g, 0, none⟩))) 52 46 true).run Tryz.prog w = .ok (.tuple #[.pointer none, .bool false]) w := fun _ => by kernel_rfl
 have t79 : ∀ w, (Instr.typeAssert (.iface 85 (.pointer (some ⟨g, 0, none⟩))) 52 79 true).run Tryz.prog w = .ok (.tuple #[.pointer none, .bool false]) w := fun _ => by kernel_rfl
 have t84 : ∀ w, (Instr.typeAssert (.iface 85 (.pointer (some ⟨g, 0, none⟩))) 52 84 true).run Tryz.prog w = .ok (.tuple #[.pointer none, .bool false]) w := fun _ => by kernel_rfl
 have t85 : ∀ w, (Instr.typeAssert (.iface 85 (.pointer (some ⟨g, 0, none⟩))) 52 85 true).run Tryz.prog w = .ok (.tuple #[.pointer (some ⟨g, 0, none⟩), .bool true]) w := fun _ => by kernel_rfl
 have hT : ∀ w, (Instr.typeAssert (.iface 85 (.pointer (some ⟨g, 0, none⟩))) 52 53 true).run Tryz.prog w = .ok (.tuple #[.pointer none, .bool false]) w := fun _ => by kernel_rfl
 have hnn : ∀ w, (binOp .eql 52 (.iface 85 (.pointer (some ⟨g, 0, none⟩))) .nilIface).run Tryz.prog w = .ok (.bool false) w := fun w => by kernel_rfl
 subst e1
 subst e2
 have M0 := fun (H : CL w B be bn bl bf few v s) => mid_start 85 (.pointer (some ⟨g, 0, none⟩)) hT H hP h1 he hm hz
 have HM0 := Lib.hid (M0 hC)
 have C0 := Lib.hid c0
 have D0 := Lib.hid d0
 have C1 := Lib.hid c1
 have D1 := Lib.hid d1
 have C2 := Lib.hid c2
 have D2 := Lib.hid d2
 have HW := Lib.hid hW
 have HP := Lib.hid hP
 have HB := Lib.hid hB
 clear M0 hC hW hP hB hz hm h1 he c0 d0 c1 d1 c2 d2
 go_enter Tryz.func15, Tryz.ntmps15
 unfold clo
 go_wp2_with fail
 refine HM0.out.mono ?_
 rintro e w1 ⟨rfl, h⟩
 have HM1 := Lib.hid h
 clear h HM0 hnn
 by_cases hgo : goes few (s.n + 1) = true
 ·rw [hgo]
  have g1 := HM1.out.sees C0.out
  go_wp2_with fail
  refine (Mid.call HW.out HM1.out HB.out D0.out).mono ?_
  rintro e w2 ⟨rfl, h⟩
  have HM2 := Lib.hid h
  clear h g1
  have g2 := HM2.out.sees C1.out
  go_wp2_with fail
  refine (Mid.rows HW.out HM2.out HB.out rfl D1.out).mono ?_
  rintro e w3 ⟨rfl, h⟩
  have HM3 := Lib.hid h
  clear h g2
  have g3 := HM3.out.sees C2.out
  go_wp2_with fail
  refine (Mid.rows HW.out HM3.out HB.out rfl D2.out).mono ?_
  rintro e w4 ⟨rfl, h⟩
  have HM4 := Lib.hid h
  clear h g3
  go_wp2_with fail
  refine (Mid.ended HM4.out HP.out).mono ?_
  rintro e w9 ⟨rfl, h⟩
  have HF := Lib.hid h
  clear h
  go_wp2
  go_end0
  refine ⟨rfl, ?_⟩
  rw [visit_in hgo]
  simp only [visits, visits_append, Option.toList, List.append_nil]
  exact HF.out
 ·rw [Bool.not_eq_true] at hgo
  rw [hgo]
  go_wp2
  refine bodyPost_ret (results_none rfl _ _ _) rfl ?_
  refine ⟨rfl, ?_⟩
  rw [visit_out hgo]
  simp only [Option.toList, List.append_nil]
  exact HM1.out.leaves
theorem f15_88 (P : Nat → Prop) (B be bn bl bf : Nat) (few : Int) (sz : Nat) (hW : WalkAt P B be bn bl bf few sz) (g : Nat) (s : St) (v : Value) (w : World) (x0 : Value) (t0 : Tr) (c0 : Sees w P ⟨g, 5, none⟩ x0) (d0 : Nd (Sees w P) x0 t0) (x1 : Value) (t1 : Tr) (c1 : Sees w P ⟨g, 6, none⟩ x1) (d1 : Nd (Sees w P) x1 t1) (hz : (t0.size + (t1.size + 0)) ≤ sz) (hm : s.n + 1 + (t0.size + (t1.size + 0)) ≤ 1000000) (h1 : s.names.length ≤ s.n) (he : s.e ≤ s.n)
  (hC : CL w B be bn bl bf few v s) (hP : Reads P B be bn bl bf) (hB : B ≤ w.heap.size) :
  Calls Tryz.prog 15 #[.iface 88 (.pointer (some ⟨g, 0, none⟩)), clo be bn bl bf] w fun e w' => e = .returned (.tuple #[]) ∧ Leaves P B be bn bl bf few (visit few (.mk none (t0 :: (t1 :: []))) s) w w' := by
 have t46 : ∀ w, (Instr.typeAssert (.iface 88 (.pointer (some ⟨g, 0, none⟩))) 52 46 true).run Tryz.prog w = .ok (.tuple #[.pointer none, .bool false]) w := fun _ => by kernel_rfl
 have t79 : ∀ w, (Instr.typeAssert (.iface 88 (.pointer (some ⟨g, 0, none⟩))) 52 79 true).run Tryz.prog w = .ok (.tuple #[.pointer none, .bool false]) w := fun _ => by kernel_rfl
 have t84 : ∀ w, (Instr.typeAssert (.iface 88 (.pointer (some ⟨g, 0, none⟩))) 52 84 true).run Tryz.prog w = .ok (.tuple #[.pointer none, .bool false]) w := fun _ => by kernel_rfl
 have t85 : ∀ w, (Instr.typeAssert (.iface 88 (.pointer (some ⟨g, 0, none⟩))) 52 85 true).run Tryz.prog w = .ok (.tuple #[.pointer none, .bool false]) w := fun _ => by kernel_rfl
 have t88 : ∀ w, (Instr.typeAssert (.iface 88 (.pointer (some ⟨g, 0, none⟩))) 52 88 true).run Tryz.prog w = .ok (.tuple #[.pointer (some ⟨g, 0, none⟩), .bool true]) w := fun _ => by kernel_rfl
 have hT : ∀ w, (Instr.typeAssert (.iface 88 (.pointer (some ⟨g, 0, none⟩))) 52 53 true).run Tryz.prog w = .ok (.tuple #[.pointer none, .bool false]) w := fun _ => by kernel_rfl
 have hnn : ∀ w, (binOp .eql 52 (.iface 88 (.pointer (some ⟨g, 0, none⟩))) .nilIface).run Tryz.prog w = .ok (.bool false) w := fun w => by kernel_rfl
 have M0 := fun (H : CL w B be bn bl bf few v s) => mid_start 88 (.pointer (some ⟨g, 0, none⟩)) hT H hP h1 he hm hz
 have HM0 := Lib.hid (M0 hC)
 have C0 := Lib.hid c0
 have D0 := Lib.hid d0
 have C1 := Lib.hid c1
 have D1 := Lib.hid d1
 have HW := Lib.hid hW
 have HP := Lib.hid hP
 have HB := Lib.hid hB
 clear M0 hC hW hP hB hz hm h1 he c0 d0 c1 d1
 go_enter Tryz.func15, Tryz.ntmps15
 unfold clo
 go_wp2_with fail
 refine HM0.out.mono ?_
 rintro e w1 ⟨rfl, h⟩
 have HM1 := Lib.hid h
 clear h HM0 hnn
 by_cases hgo : goes few (s.n + 1) = true
 ·rw [hgo]
  have g1 := HM1.out.sees C0.out
  go_wp2_with fail
  refine (Mid.call HW.out HM1.out HB.out D0.out).mono ?_
  rintro e w2 ⟨rfl, h⟩
  have HM2 := Lib.hid h
  clear h g1
  have g2 := HM2.out.sees C1.out
  go_wp2_with fail
  refine (Mid.call HW.out HM2.out HB.out D1.out).mono ?_
  rintro e w3 ⟨rfl, h⟩
  have HM3 := Lib.hid h
  clear h g2
  go_wp2_with fail
  refine (Mid.ended HM3.out HP.out).mono ?_
  rintro e w9 ⟨rfl, h⟩
  have HF := Lib.hid h
  clear h
  go_wp2
  go_end0
  refine ⟨rfl, ?_⟩
  rw [visit_in hgo]
  simp only [visits, visits_append, Option.toList, List.append_nil]
  exact HF.out
 ·rw [Bool.not_eq_true] at hgo
  rw [hgo]
  go_wp2
  refine bodyPost_ret (results_none rfl _ _ _) rfl ?_
  refine ⟨rfl, ?_⟩
  rw [visit_out hgo]
  simp only [Option.toList, List.append_nil]
  exact HM1.out.leaves
theorem f15_93 (P : Nat → Prop) (B be bn bl bf : Nat) (few : Int) (sz : Nat) (hW : WalkAt P B be bn bl bf few sz) (g : Nat) (s : St) (v : Value) (w : World) (x0 : Value) (t0 : Tr) (c0 : Sees w P ⟨g, 4, none⟩ x0) (d0 : Nd (Sees w P) (.iface 53 x0) t0) (a1 : Option Addr) (n1 m1 : Nat) (r1 : List Tr) (c1 : Sees w P ⟨g, 8, none⟩ (.slice a1 n1 m1)) (d1 : Nds (Sees w P) 0 a1 r1) (e1 : n1 = r1.length) (a2 : Option Addr) (n2 m2 : Nat) (r2 : List Tr) (c2 : Sees w P ⟨g, 12, none⟩ (.slice a2 n2 m2)) (d2 : Nds (Sees w P) 0 a2 r2) (e2 : n2 = r2.length) (hz : (t0.size + (sizes r1 + (sizes r2 + 0))) ≤ sz) (hm : s.n + 1 + (t0.size + (sizes r1 + (sizes r2 + 0))) ≤ 1000000) (h1 : s.names.length ≤ s.n) (he : s.e ≤ s.n)
  (hC : CL w B be bn bl bf few v s) (hP : Reads P B be bn bl bf) (hB : B ≤ w.heap.size) :
  Calls Tryz.prog 15 #[.iface 93 (.pointer (some ⟨g, 0, none⟩)), clo be bn bl bf] w fun e w' => e = .returned (.tuple #[]) ∧ Leaves P B be bn bl bf few (visit few (.mk none (t0 :: (r1 ++ (r2 ++ [])))) s) w w' := by
 have t46 : ∀ w, (Instr.typeAssert (.iface 93 (.pointer (some ⟨g, 0, none⟩))) 52 46 true).run Tryz.prog w = .ok (.tuple #[.pointer none, .bool false]) w := fun _ => by kernel_rfl
 have t79 : ∀ w, (Instr.typeAssert (.iface 93 (.pointer (some ⟨g, 0, none⟩))) 52 79 true).run Tryz.prog w = .ok (.tuple #[.pointer none, .bool false]) w := fun _ => by kernel_rfl
 have t84 : ∀ w, (Instr.typeAssert (.iface 93 (.pointer (some ⟨g, 0, none⟩))) 52 84 true).run Tryz.prog w = .ok (.tuple #[.pointer none, .bool false]) w := fun _ => by kernel_rfl
 have t85 : ∀ w, (Instr.typeAssert (.iface 93 (.pointer (some ⟨g, 0, none⟩))) 52 85 true).run Tryz.prog w = .ok (.tuple #[.pointer none, .bool false]) w := fun _ => by kernel_rfl
 have t88 : ∀ w, (Instr.typeAssert (.iface 93 (.pointer (some ⟨g, 0, none⟩))) 52 88 true).run Tryz.prog w = .ok (.tuple #[.pointer none, .bool false]) w := fun _ => by kernel_rfl
 have t93 : ∀ w, (Instr.typeAssert (.iface 93 (.pointer (some ⟨g, 0, none⟩))) 52 93 true).run Tryz.prog w = .ok (.tuple #[.pointer (some ⟨g, 0, none⟩), .bool true]) w := fun _ => by kernel_rfl
 have hT : ∀ w, (Instr.typeAssert (.iface 93 (.pointer (some ⟨g, 0, none⟩))) 52 53 true).run Tryz.prog w = .ok (.tuple #[.pointer none, .bool false]) w := fun _ => by kernel_rfl
 have hnn : ∀ w, (binOp .eql 52 (.iface 93 (.pointer (some ⟨g, 0, none⟩))) .nilIface).run Tryz.prog w = .ok (.bool false) w := fun w => by kernel_rfl
 subst e1
 have l1 : r1.length ≤ 1000000 := by have := length_sizes r1; omega
 subst e2
 have M0 := fun (H : CL w B be bn bl bf few v s) => mid_start 93 (.pointer (some ⟨g, 0, none⟩)) hT H hP h1 he hm hz
 have HM0 := Lib.hid (M0 hC)
 have C0 := Lib.hid c0
 have D0 := Lib.hid d0
 have C1 := Lib.hid c1
 have D1 := Lib.hid d1
 have C2 := Lib.hid c2
 have D2 := Lib.hid d2
 have HW := Lib.hid hW
 have HP := Lib.hid hP
 have HB := Lib.hid hB
 clear M0 hC hW hP hB hz hm h1 he c0 d0 c1 d1 c2 d2
 go_enter Tryz.func15, Tryz.ntmps15
 unfold clo
 go_wp2_with fail
 refine HM0.out.mono ?_
 rintro e w1 ⟨rfl, h⟩
 have HM1 := Lib.hid h
 clear h HM0 hnn
 by_cases hgo : goes few (s.n + 1) = true
 ·rw [hgo]
  have g1 := HM1.out.sees C0.out
  go_wp2_with fail
  refine (Mid.call HW.out HM1.out HB.out D0.out).mono ?_
  rintro e w2 ⟨rfl, h⟩
  have HM2 := Lib.hid h
  clear h g1
  have g2 := HM2.out.sees C1.out
  go_wp2_with fail
  go_loopw [131] (fun i wr => ∃ k : Nat, k ≤ r1.length ∧ i = .int .i64 k ∧ Mid P B be bn bl bf few sz (visits few (r1.take k) (visit few t0 ⟨s.names, s.n + 1, s.e⟩)) (sizes (r1.drop k) + (sizes r2 + 0)) w wr) (fun i _ => r1.length - (intOf i).toNat)
  case atStart => exact ⟨0, Nat.zero_le _, rfl, HM2.out.row0⟩
  case round =>
   obtain ⟨k, hk, rfl, hL⟩ := hrel
   have HL := Lib.hid hL
   clear hL
   by_cases hlt : k < r1.length
   ·have hk' : k < r1.length := by omega
    obtain ⟨b, i, rfl⟩ := nds_some D1.out (Nat.lt_of_le_of_lt (Nat.zero_le k) hk')
    obtain ⟨x, hx, hdx⟩ := Nds.get D1.out k hk'
    have hc := HL.out.sees hx
    have HX := Lib.hid hdx
    have HR := Lib.hid (HL.out.row1 hk')
    have HV := Lib.hid (visits_at few r1 (visit few t0 ⟨s.names, s.n + 1, s.e⟩) k hk')
    clear hx hdx
    go_wp2_with fail
    refine (Mid.call HW.out HR.out HB.out HX.out).mono ?_
    rintro e w2 ⟨rfl, hl2⟩
    have HL2 := Lib.hid hl2
    clear hl2
    go_wp2
    go_roundw
    case rel => exact ⟨k + 1, by omega, by go_num, by rw [HV.out]; exact HL2.out⟩
    case measure =>
     simp [intOf]
     omega
   ·have HM3 := Lib.hid (HL.out.rowN (by omega))
    clear HL
    have g3 := HM3.out.sees C2.out
    go_wp2_with fail
    refine (Mid.rows HW.out HM3.out HB.out rfl D2.out).mono ?_
    rintro e w4 ⟨rfl, h⟩
    have HM4 := Lib.hid h
    clear h g3
    go_wp2_with fail
    refine (Mid.ended HM4.out HP.out).mono ?_
    rintro e w9 ⟨rfl, h⟩
    have HF := Lib.hid h
    clear h
    go_wp2
    go_end0
    refine ⟨rfl, ?_⟩
    rw [visit_in hgo]
    simp only [visits, visits_append, Option.toList, List.append_nil]
    exact HF.out
 ·rw [Bool.not_eq_true] at hgo
  rw [hgo]
  go_wp2
  refine bodyPost_ret (results_none rfl _ _ _) rfl ?_
  refine ⟨rfl, ?_⟩
  rw [visit_out hgo]
  simp only [Option.toList, List.append_nil]
  exact HM1.out.leaves
theorem f15_97 (P : Nat → Prop) (B be bn bl bf : Nat) (few : Int) (sz : Nat) (hW : WalkAt P B be bn bl bf few sz) (g : Nat) (s : St) (v : Value) (w : World) (x0 : Value) (t0 : Tr) (c0 : Sees w P ⟨g, 4, none⟩ x0) (d0 : Nd (Sees w P) x0 t0) (x1 : Value) (t1 : Tr) (c1 : Sees w P ⟨g, 5, none⟩ x1) (d1 : Nd (Sees w P) x1 t1) (a2 : Option Addr) (n2 m2 : Nat) (r2 : List Tr) (c2 : Sees w P ⟨g, 6, none⟩ (.slice a2 n2 m2)) (d2 : Nds (Sees w P) 0 a2 r2) (e2 : n2 = r2.length) (hz : (t0.size + (t1.size + (sizes r2 + 0))) ≤ sz) (hm : s.n + 1 + (t0.size + (t1.size + (sizes r2 + 0))) ≤ 1000000) (h1 : s.names.length ≤ s.n) (he : s.e ≤ s.n)
  (hC : CL w B be bn bl bf few v s) (hP : Reads P B be bn bl bf) (hB : B ≤ w.heap.size) :
  Calls Tryz.prog 15 #[.iface 97 (.pointer (some ⟨g, 0, none⟩)), clo be bn bl bf] w fun e w' => e = .returned (.tuple #[]) ∧ Leaves P B be bn bl bf few (visit few (.mk none (t0 :: (t1 :: (r2 ++ [])))) s) w w' := by
 have t46 : ∀ w, (Instr.typeAssert (.iface 97 (.pointer (some ⟨g, 0, none⟩))) 52 46 true).run Tryz.prog w = .ok (.tuple #[.pointer none, .bool false]) w := fun _ => by kernel_rfl
 have t79 : ∀ w, (Instr.typeAssert (.iface 97 (.pointer (some ⟨g, 0, none⟩))) 52 79 true).run Tryz.prog w = .ok (.tuple #[.pointer none, .bool false]) w := fun _ => by kernel_rfl
 have t84 : ∀ w, (Instr.typeAssert (.iface 97 (.pointer (some ⟨g, 0, none⟩))) 52 84 true).run Tryz.prog w = .ok (.tuple #[.pointer none, .bool false]) w := fun _ => by kernel_rfl
 have t85 : ∀ w, (Instr.typeAssert (.iface 97 (.pointer (some ⟨g, 0, none⟩))) 52 85 true).run Tryz.prog w = .ok (.tuple #[.pointer none, .bool false]) w := fun _ => by kernel_rfl
 have t88 : ∀ w, (Instr.typeAssert (.iface 97 (.pointer (some ⟨g, 0, none⟩))) 52 88 true).run Tryz.prog w = .ok (.tuple #[.pointer none, .bool false]) w := fun _ => by kernel_rfl
 have t93 : ∀ w, (Instr.typeAssert (.iface 97 (.pointer (some ⟨g, 0, none⟩))) 52 93 true).run Tryz.prog w = .ok (.tuple #[.pointer none, .bool false]) w := fun _ => by kernel_rfl
 have t97 : ∀ w, (Instr.typeAssert (.iface 97 (.pointer (some ⟨g, 0, none⟩))) 52 97 true).run Tryz.prog w = .ok (.tuple #[.pointer (some ⟨g, 0, none⟩), .bool true]) w := fun _ => by kernel_rfl
 have hT : ∀ w, (Instr.typeAssert (.iface 97 (.pointer (some ⟨g, 0, none⟩))) 52 53 true).run Tryz.prog w = .ok (.tuple #[.pointer none, .bool false]) w := fun _ => by kernel_rfl
 have hnn : ∀ w, (binOp .eql 52 (.iface 97 (.pointer (some ⟨g, 0, none⟩))) .nilIface).run Tryz.prog w = .ok (.bool false) w := fun w => by kernel_rfl
 subst e2
 have M0 := fun (H : CL w B be bn bl bf few v s) => mid_start 97 (.pointer (some ⟨g, 0, none⟩)) hT H hP h1 he hm hz
 have HM0 := Lib.hid (M0 hC)
 have C0 := Lib.hid c0
 have D0 := Lib.hid d0
 have C1 := Lib.hid c1
 have D1 := Lib.hid d1
 have C2 := Lib.hid c2
 have D2 := Lib.hid d2
 have HW := Lib.hid hW
 have HP := Lib.hid hP
 have HB := Lib.hid hB
 clear M0 hC hW hP hB hz hm h1 he c0 d0 c1 d1 c2 d2
 go_enter Tryz.func15, Tryz.ntmps15
 unfold clo
 go_wp2_with fail
 refine HM0.out.mono ?_
 rintro e w1 ⟨rfl, h⟩
 have HM1 := Lib.hid h
 clear h HM0 hnn
 by_cases hgo : goes few (s.n + 1) = true
 ·rw [hgo]
  have g1 := HM1.out.sees C0.out
  go_wp2_with fail
  refine (Mid.call HW.out HM1.out HB.out D0.out).mono ?_
  rintro e w2 ⟨rfl, h⟩
  have HM2 := Lib.hid h
  clear h g1
  have g2 := HM2.out.sees C1.out
  go_wp2_with fail
  refine (Mid.call HW.out HM2.out HB.out D1.out).mono ?_
  rintro e w3 ⟨rfl, h⟩
  have HM3 := Lib.hid h
  clear h g2
  have g3 := HM3.out.sees C2.out
  go_wp2_with fail
  refine (Mid.rows HW.out HM3.out HB.out rfl D2.out).mono ?_
  rintro e w4 ⟨rfl, h⟩
  have HM4 := Lib.hid h
  clear h g3
  go_wp2_with fail
  refine (Mid.ended HM4.out HP.out).mono ?_
  rintro e w9 ⟨rfl, h⟩
  have HF := Lib.hid h
  clear h
  go_wp2
  go_end0
  refine ⟨rfl, ?_⟩
  rw [visit_in hgo]
  simp only [visits, visits_append, Option.toList, List.append_nil]
  exact HF.out
 ·rw [Bool.not_eq_true] at hgo
  rw [hgo]
  go_wp2
  refine bodyPost_ret (results_none rfl _ _ _) rfl ?_
  refine ⟨rfl, ?_⟩
  rw [visit_out hgo]
  simp only [Option.toList, List.append_nil]
  exact HM1.out.leaves
theorem f15_100 (P : Nat → Prop) (B be bn bl bf : Nat) (few : Int) (sz : Nat) (hW : WalkAt P B be bn bl bf few sz) (g : Nat) (s : St) (v : Value) (w : World) (x0 : Value) (t0 : Tr) (c0 : Sees w P ⟨g, 4, none⟩ x0) (d0 : Nd (Sees w P) x0 t0) (a1 : Option Addr) (n1 m1 : Nat) (r1 : List Tr) (c1 : Sees w P ⟨g, 5, none⟩ (.slice a1 n1 m1)) (d1 : Nds (Sees w P) 0 a1 r1) (e1 : n1 = r1.length) (hz : (t0.size + (sizes r1 + 0)) ≤ sz) (hm : s.n + 1 + (t0.size + (sizes r1 + 0)) ≤ 1000000) (h1 : s.names.length ≤ s.n) (he : s.e ≤ s.n)
  (hC : CL w B be bn bl bf few v s) (hP : Reads P B be bn bl bf) (hB : B ≤ w.heap.size) :
  Calls Tryz.prog 15 #[.iface 100 (.pointer (some ⟨g, 0, none⟩)), clo be bn bl bf] w fun e w' => e = .returned (.tuple #[]) ∧ Leaves P B be bn bl bf few (visit few (.mk none (t0 :: (r1 ++ []))) s) w w' := by
 have t46 : ∀ w, (Instr.typeAssert (.iface 100 (.pointer (some ⟨g, 0, none⟩))) 52 46 true).run Tryz.prog w = .ok (.tuple #[.pointer none, .bool false]) w := fun _ => by kernel_rfl
 have t79 : ∀ w, (Instr.typeAssert (.iface 100 (.pointer (some ⟨g, 0, none⟩))) 52 79 true).run Tryz.prog w = .ok (.tuple #[.pointer none, .bool false]) w := fun _ => by kernel_rfl
 have t84 : ∀ w, (Instr.typeAssert (.iface 100 (.pointer (some ⟨g, 0, none⟩))) 52 84 true).run Tryz.prog w = .ok (.tuple #[.pointer none, .bool false]) w := fun _ => by kernel_rfl
 have t85 : ∀ w, (Instr.typeAssert (.iface 100 (.pointer (some ⟨g, 0, none⟩))) 52 85 true).run Tryz.prog w = .ok (.tuple #[.pointer none, .bool false]) w := fun _ => by kernel_rfl
 have t88 : ∀ w, (Instr.typeAssert (.iface 100 (.pointer (some ⟨g, 0, none⟩))) 52 88 true).run Tryz.prog w = .ok (.tuple #[.pointer none, .bool false]) w := fun _ => by kernel_rfl
 have t93 : ∀ w, (Instr.typeAssert (.iface 100 (.pointer (some ⟨g, 0, none⟩))) 52 93 true).run Tryz.prog w = .ok (.tuple #[.pointer none, .bool false]) w := fun _ => by kernel_rfl
 have t97 : ∀ w, (Instr.typeAssert (.iface 100 (.pointer (some ⟨g, 0, none⟩))) 52 97 true).run Tryz.prog w = .ok (.tuple #[.pointer none, .bool false]) w := fun _ => by kernel_rfl
 have t100 : ∀ w, (Instr.typeAssert (.iface 100 (.pointer (some ⟨g, 0, none⟩))) 52 100 true).run Tryz.prog w = .ok (.tuple #[.pointer (some ⟨g, 0, none⟩), .bool true]) w := fun _ => by kernel_rfl
 have hT : ∀ w, (Instr.typeAssert (.iface 100 (.pointer (some ⟨g, 0, none⟩))) 52 53 true).run Tryz.prog w = .ok (.tuple #[.pointer none, .bool false]) w := fun _ => by kernel_rfl
 have hnn : ∀ w, (binOp .eql 52 (.iface 100 (.pointer (some ⟨g, 0, none⟩))) .nilIface).run Tryz.prog w = .ok (.bool false) w := fun w => by kernel_rfl
 subst e1
 have M0 := fun (H : CL w B be bn bl bf few v s) => mid_start 100 (.pointer (some ⟨g, 0, none⟩)) hT H hP h1 he hm hz
 have HM0 := Lib.hid (M0 hC)
 have C0 := Lib.hid c0
 have D0 := Lib.hid d0
 have C1 := Lib.hid c1
 have D1 := Lib.hid d1
 have HW := Lib.hid hW
 have HP := Lib.hid hP
 have HB := Lib.hid hB
 clear M0 hC hW hP hB hz hm h1 he c0 d0 c1 d1
 go_enter Tryz.func15, Tryz.ntmps15
 unfold clo
 go_wp2_with fail
 refine HM0.out.mono ?_
 rintro e w1 ⟨rfl, h⟩
 have HM1 := Lib.hid h
 clear h HM0 hnn
 by_cases hgo : goes few (s.n + 1) = true
 ·rw [hgo]
  have g1 := HM1.out.sees C0.out
  go_wp2_with fail
  refine (Mid.call HW.out HM1.out HB.out D0.out).mono ?_
  rintro e w2 ⟨rfl, h⟩
  have HM2 := Lib.hid h
  clear h g1
  have g2 := HM2.out.sees C1.out
  go_wp2_with fail
  refine (Mid.rows HW.out HM2.out HB.out rfl D1.out).mono ?_
  rintro e w3 ⟨rfl, h⟩
  have HM3 := Lib.hid h
  clear h g2
  go_wp2_with fail
  refine (Mid.ended HM3.out HP.out).mono ?_
  rintro e w9 ⟨rfl, h⟩
  have HF := Lib.hid h
  clear h
  go_wp2
  go_end0
  refine ⟨rfl, ?_⟩
  rw [visit_in hgo]
  simp only [visits, visits_append, Option.toList, List.append_nil]
  exact HF.out
 ·rw [Bool.not_eq_true] at hgo
  rw [hgo]
  go_wp2
  refine bodyPost_ret (results_none rfl _ _ _) rfl ?_
  refine ⟨rfl, ?_⟩
  rw [visit_out hgo]
  simp only [Option.toList, List.append_nil]
  exact HM1.out.leaves
theorem f15_103_y (P : Nat → Prop) (B be bn bl bf : Nat) (few : Int) (sz : Nat) (hW : WalkAt P B be bn bl bf few sz) (g : Nat) (s : St) (v : Value) (w : World) (x0 : Value) (t0 : Tr) (c0 : Sees w P ⟨g, 4, none⟩ x0) (d0 : Nd (Sees w P) x0 t0) (hz : (t0.size + 0) ≤ sz) (hm : s.n + 1 + (t0.size + 0) ≤ 1000000) (h1 : s.names.length ≤ s.n) (he : s.e ≤ s.n)
  (hC : CL w B be bn bl bf few v s) (hP : Reads P B be bn bl bf) (hB : B ≤ w.heap.size) :
  Calls Tryz.prog 15 #[.iface 103 (.pointer (some ⟨g, 0, none⟩)), clo be bn bl bf] w fun e w' => e = .returned (.tuple #[]) ∧ Leaves P B be bn bl bf few (visit few (.mk none (t0 :: [])) s) w w' := by
 have t46 : ∀ w, (Instr.typeAssert (.iface 103 (.pointer (some ⟨g, 0, none⟩))) 52 46 true).run Tryz.prog w = .ok (.tuple #[.pointer none, .bool false]) w := fun _ => by kernel_rfl
 have t79 : ∀ w, (Instr.typeAssert (.iface 103 (.pointer (some ⟨g, 0, none⟩))) 52 79 true).run Tryz.prog w = .ok (.tuple #[.pointer none, .bool false]) w := fun _ => by kernel_rfl
 have t84 : ∀ w, (Instr.typeAssert (.iface 103 (.pointer (some ⟨g, 0, none⟩))) 52 84 true).run Tryz.prog w = .ok (.tuple #[.pointer none, .bool false]) w := fun _ => by kernel_rfl
 have t85 : ∀ w, (Instr.typeAssert (.iface 103 (.pointer (some ⟨g, 0, none⟩))) 52 85 true).run Tryz.prog w = .ok (.tuple #[.pointer none, .bool false]) w := fun _ => by kernel_rfl
 have t88 : ∀ w, (Instr.typeAssert (.iface 103 (.pointer (some ⟨g, 0, none⟩))) 52 88 true).run Tryz.prog w = .ok (.tuple #[.pointer none, .bool false]) w := fun _ => by kernel_rfl
 have t93 : ∀ w, (Instr.typeAssert (.iface 103 (.pointer (some ⟨g, 0, none⟩))) 52 93 true).run Tryz.prog w = .ok (.tuple #[.pointer none, .bool false]) w := fun _ => by kernel_rfl
 have t97 : ∀ w, (Instr.typeAssert (.iface 103 (.pointer (some ⟨g, 0, none⟩))) 52 97 true).run Tryz.prog w = .ok (.tuple #[.pointer none, .bool false]) w := fun _ => by kernel_rfl
 have t100 : ∀ w, (Instr.typeAssert (.iface 103 (.pointer (some ⟨g, 0, none⟩))) 52 100 true).run Tryz.prog w = .ok (.tuple #[.pointer none, .bool false]) w := fun _ => by kernel_rfl
 have t103 : ∀ w, (Instr.typeAssert (.iface 103 (.pointer (some ⟨g, 0, none⟩))) 52 103 true).run Tryz.prog w = .ok (.tuple #[.pointer (some ⟨g, 0, none⟩), .bool true]) w := fun _ => by kernel_rfl
 have hT : ∀ w, (Instr.typeAssert (.iface 103 (.pointer (some ⟨g, 0, none⟩))) 52 53 true).run Tryz.prog w = .ok (.tuple #[.pointer none, .bool false]) w := fun _ => by kernel_rfl
 have hnn : ∀ w, (binOp .eql 52 (.iface 103 (.pointer (some ⟨g, 0, none⟩))) .nilIface).run Tryz.prog w = .ok (.bool false) w := fun w => by kernel_rfl
 obtain ⟨T0, p0, rfl⟩ := d0.iface
 have q0 : ∀ w, (binOp .neq 81 (.iface T0 p0) .nilIface).run Tryz.prog w = .ok (.bool true) w := fun w => by kernel_rfl
 have M0 := fun (H : CL w B be bn bl bf few v s) => mid_start 103 (.pointer (some ⟨g, 0, none⟩)) hT H hP h1 he hm hz
 have HM0 := Lib.hid (M0 hC)
 have C0 := Lib.hid c0
 have D0 := Lib.hid d0
 have HW := Lib.hid hW
 have HP := Lib.hid hP
 have HB := Lib.hid hB
 clear M0 hC hW hP hB hz hm h1 he c0 d0
 go_enter Tryz.func15, Tryz.ntmps15
 unfold clo
 go_wp2_with fail
 refine HM0.out.mono ?_
 rintro e w1 ⟨rfl, h⟩
 have HM1 := Lib.hid h
 clear h HM0 hnn
 by_cases hgo : goes few (s.n + 1) = true
 ·rw [hgo]
  have g1 := HM1.out.sees C0.out
  go_wp2_with fail
  refine (Mid.call HW.out HM1.out HB.out D0.out).mono ?_
  rintro e w2 ⟨rfl, h⟩
  have HM2 := Lib.hid h
  clear h g1
  go_wp2_with fail
  refine (Mid.ended HM2.out HP.out).mono ?_
  rintro e w9 ⟨rfl, h⟩
  have HF := Lib.hid h
  clear h
  go_wp2
  go_end0
  refine ⟨rfl, ?_⟩
  rw [visit_in hgo]
  simp only [visits, visits_append, Option.toList, List.append_nil]
  exact HF.out
 ·rw [Bool.not_eq_true] at hgo
  rw [hgo]
  go_wp2
  refine bodyPost_ret (results_none rfl _ _ _) rfl ?_
  refine ⟨rfl, ?_⟩
  rw [visit_out hgo]
  simp only [Option.toList, List.append_nil]
  exact HM1.out.leaves
theorem f15_103_n (P : Nat → Prop) (B be bn bl bf : Nat) (few : Int) (sz : Nat) (hW : WalkAt P B be bn bl bf few sz) (g : Nat) (s : St) (v : Value) (w : World) (c0 : Sees w P ⟨g, 4, none⟩ .nilIface) (hz : 0 ≤ sz) (hm : s.n + 1 + 0 ≤ 1000000) (h1 : s.names.length ≤ s.n) (he : s.e ≤ s.n)
  (hC : CL w B be bn bl bf few v s) (hP : Reads P B be bn bl bf) (hB : B ≤ w.heap.size) :
  Calls Tryz.prog 15 #[.iface 103 (.pointer (some ⟨g, 0, none⟩)), clo be bn bl bf] w fun e w' => e = .returned (.tuple #[]) ∧ Leaves P B be bn bl bf few (visit few (.mk none []) s) w w' := by
 have t46 : ∀ w, (Instr.typeAssert (.iface 103 (.pointer (some ⟨g, 0, none⟩))) 52 46 true).run Tryz.prog w = .ok (.tuple #[.pointer none, .bool false]) w := fun _ => by kernel_rfl
 have t79 : ∀ w, (Instr.typeAssert (.iface 103 (.pointer (some ⟨g, 0, none⟩))) 52 79 true).run Tryz.prog w = .ok (.tuple #[.pointer none, .bool false]) w := fun _ => by kernel_rfl
 have t84 : ∀ w, (Instr.typeAssert (.iface 103 (.pointer (some ⟨g, 0, none⟩))) 52 84 true).run Tryz.prog w = .ok (.tuple #[.pointer none, .bool false]) w := fun _ => by kernel_rfl
 have t85 : ∀ w, (Instr.typeAssert (.iface 103 (.pointer (some ⟨g, 0, none⟩))) 52 85 true).run Tryz.prog w = .ok (.tuple #[.pointer none, .bool false]) w := fun _ => by kernel_rfl
 have t88 : ∀ w, (Instr.typeAssert (.iface 103 (.pointer (some ⟨g, 0, none⟩))) 52 88 true).run Tryz.prog w = .ok (.tuple #[.pointer none, .bool false]) w := fun _ => by kernel_rfl
 have t93 : ∀ w, (Instr.typeAssert (.iface 103 (.pointer (some ⟨g, 0, none⟩))) 52 93 true).run Tryz.prog w = .ok (.tuple #[.pointer none, .bool false]) w := fun _ => by kernel_rfl
 have t97 : ∀ w, (Instr.typeAssert (.iface 103 (.pointer (some ⟨g, 0, none⟩))) 52 97 true).run Tryz.prog w = .ok (.tuple #[.pointer none, .bool false]) w := fun _ => by kernel_rfl
 have t100 : ∀ w, (Instr.typeAssert (.iface 103 (.pointer (some ⟨g, 0, none⟩))) 52 100 true).run Tryz.prog w = .ok (.tuple #[.pointer none, .bool false]) w := fun _ => by kernel_rfl
 have t103 : ∀ w, (Instr.typeAssert (.iface 103 (.pointer (some ⟨g, 0, none⟩))) 52 103 true).run Tryz.prog w = .ok (.tuple #[.pointer (some ⟨g, 0, none⟩), .bool true]) w := fun _ => by kernel_rfl
 have hT : ∀ w, (Instr.typeAssert (.iface 103 (.pointer (some ⟨g, 0, none⟩))) 52 53 true).run Tryz.prog w = .ok (.tuple #[.pointer none, .bool false]) w := fun _ => by kernel_rfl
 have hnn : ∀ w, (binOp .eql 52 (.iface 103 (.pointer (some ⟨g, 0, none⟩))) .nilIface).run Tryz.prog w = .ok (.bool false) w := fun w => by kernel_rfl
 have q0 : ∀ w, (binOp .neq 81 .nilIface .nilIface).run Tryz.prog w = .ok (.bool false) w := fun w => by kernel_rfl
 have M0 := fun (H : CL w B be bn bl bf few v s) => mid_start 103 (.pointer (some ⟨g, 0, none⟩)) hT H hP h1 he hm hz
 have HM0 := Lib.hid (M0 hC)
 have C0 := Lib.hid c0
 have HW := Lib.hid hW
 have HP := Lib.hid hP
 have HB := Lib.hid hB
 clear M0 hC hW hP hB hz hm h1 he c0
 go_enter Tryz.func15, Tryz.ntmps15
 unfold clo
 go_wp2_with fail
 refine HM0.out.mono ?_
 rintro e w1 ⟨rfl, h⟩
 have HM1 := Lib.hid h
 clear h HM0 hnn
 by_cases hgo : goes few (s.n + 1) = true
 ·rw [hgo]
  have g1 := HM1.out.sees C0.out
  have gx0 := g1
  skip
  clear g1
  go_wp2_with fail
  refine (Mid.ended HM1.out HP.out).mono ?_
  rintro e w9 ⟨rfl, h⟩
  have HF := Lib.hid h
  clear h
  go_wp2
  go_end0
  refine ⟨rfl, ?_⟩
  rw [visit_in hgo]
  simp only [visits, visits_append, Option.toList, List.append_nil]
  exact HF.out
 ·rw [Bool.not_eq_true] at hgo
  rw [hgo]
  go_wp2
  refine bodyPost_ret (results_none rfl _ _ _) rfl ?_
  refine ⟨rfl, ?_⟩
  rw [visit_out hgo]
  simp only [Option.toList, List.append_nil]
  exact HM1.out.leaves
end Go.Proofs.YtabeokminikfdaaGreat
