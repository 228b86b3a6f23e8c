import Derived.Test.YtabeokminikfdaaGreatQDv
import Derived.Test.YtabeokminikfdaaGreatQEd
import Derived.Test.YtabeokminikfdaaGreatQAq
import Derived.Test.YtabeokminikfdaaGreatQA1
set_option linter.all false
set_option maxRecDepth 100000
set_option maxHeartbeats 8000000
namespace Go.Proofs.YtabeokminikfdaaGreat
open Go.RowKit
theorem GS.sh {ld : Bool} {W : World} : ∀ {d : Nat} (s : SV) (t : Tr), GS ld W d s t → SvSh s
 | 0, _, _, h => h.elim
 | _ + 1, _, _, h => h.2
theorem make_stmt (W : World) (gm : Nat) (nm : ByteArray) : ∀ d, MakeS W gm nm (GS false W d)
 | 0 => fun _ _ _ _ _ _ h _ _ => h.elim
 | d + 1 => by
  intro s t N vi vf w hx hM hN
  have hE := make_expr W gm nm d
  have hS := make_stmt W gm nm d
  obtain ⟨hx, hsh⟩ := hx
  obtain ⟨sk, so, st, w1, w2, w3, w4, w5⟩ := s
  obtain ⟨⟨a1, n1, m1, rfl⟩, ⟨a2, n2, m2, rfl⟩, ⟨a3, n3, m3, rfl⟩, ⟨a4, n4, m4, rfl⟩, ⟨a5, n5, m5, rfl⟩⟩ := hsh
  exact f26_go W gm nm _ hE GE.sh _ hS GS.sh sk so st a1 a2 a3 a4 a5 n1 n3 n4 n5 m1 m2 m3 m4 m5 n2 t hx N vi vf w hM hN
end Go.Proofs.YtabeokminikfdaaGreat
namespace Go.Proofs.YtabeokminikfdaaGreat
open Go.RowKit
theorem f22_any (b0 b1 b2 b3 b4 b5 : Bool) (w : World) : Calls Tryz.prog 22 #[.agg #[.bool b0, .bool b1, .bool b2, .bool b3, .bool b4, .bool b5]] w fun e w' => (∃ g, e = .returned (.pointer (some ⟨g, 0, none⟩))) ∧ Below w.heap.size w w' := by
 go_enter Tryz.func22, Tryz.ntmps22
 go_wp2
 go_ret
 exact ⟨⟨_, rfl⟩, bA.alloc (Nat.le_of_lt (lt1 _ _)) _⟩
def TreeOf (ts : List Tr) (w : World) (e : Ending) (w' : World) : Prop := ∃ (g gm : Nat) (P : Nat → Prop), e = .returned (.tuple #[.pointer (some ⟨g, 0, none⟩), .pointer (some ⟨gm, 0, none⟩), .bool true]) ∧ Below w.heap.size w w' ∧ (∀ k, P k → w.heap.size ≤ k ∧ k < w'.heap.size) ∧ Nd (Sees w' P) (.iface 46 (.pointer (some ⟨g, 0, none⟩))) (.mk none ts)
theorem f14_any (W : World) (d : Nat) (nm : ByteArray) (a1 : Option Addr) (n1 m1 : Nat) (b0 b1 b2 b3 b4 b5 : Bool) (ts : List Tr) (w : World) (hR : RowOf W 8 (SQ (GS false W d)) (.slice a1 n1 m1) ts) (hz : sizes ts ≤ 1000000) (hW : Below W.heap.size W w) :
  Calls Tryz.prog 14 #[.agg #[.string nm, .slice a1 n1 m1, .bool b0, .bool b1, .bool b2, .bool b3, .bool b4, .bool b5]] w (TreeOf ts w) := by
 have HB1 : Hid (Below w.heap.size w ((w.alloc (.cells #[.string nm, .slice a1 n1 m1, .bool b0, .bool b1, .bool b2, .bool b3, .bool b4, .bool b5] 26)).alloc (.cells #[.string nm, .int .i32 0, .int .i32 0, .slice none 0 0, .slice none 0 0, .bool false] 71))) := Lib.hid (bA.alloc (Nat.le_of_lt (lt1 _ _)) _)
 have HM : Hid (Mk W (w.heap.size + 1) nm (.slice none 0 0) (.slice none 0 0) 0 ((w.alloc (.cells #[.string nm, .slice a1 n1 m1, .bool b0, .bool b1, .bool b2, .bool b3, .bool b4, .bool b5] 26)).alloc (.cells #[.string nm, .int .i32 0, .int .i32 0, .slice none 0 0, .slice none 0 0, .bool false] 71))) := Lib.hid ⟨⟨0, 0, new2 w _ _⟩, ⟨0, [], Nat.le_refl _, rfl, .inl ⟨rfl, rfl⟩⟩, ⟨0, [], Nat.le_refl _, rfl, .inl ⟨rfl, rfl⟩⟩, (fun e => by cases e), (fun e => by cases e), (fun b hb => by cases hb), Nat.le_trans hW.size (Nat.le_succ _), hW.trans (HB1.out.mono hW.size)⟩
 have HR := Lib.hid hR
 have HZ := Lib.hid hz
 have HW := Lib.hid hW
 clear hR hz hW
 go_enter Tryz.func14, Tryz.ntmps14
 have hS0 : Safe (w.heap.size + 1) (.slice none 0 0) (.slice none 0 0) ((w.alloc (.cells #[.string nm, .slice a1 n1 m1, .bool b0, .bool b1, .bool b2, .bool b3, .bool b4, .bool b5] 26)).alloc (.cells #[.string nm, .int .i32 0, .int .i32 0, .slice none 0 0, .slice none 0 0, .bool false] 71)) w.heap.size := ⟨by simp; omega, by omega, (fun e => by cases e), (fun e => by cases e)⟩
 have HS0 := Lib.hid hS0
 have q0 : ((w.alloc (.cells #[.string nm, .slice a1 n1 m1, .bool b0, .bool b1, .bool b2, .bool b3, .bool b4, .bool b5] 26)).alloc (.cells #[.string nm, .int .i32 0, .int .i32 0, .slice none 0 0, .slice none 0 0, .bool false] 71)).cell? ⟨w.heap.size, 0, none⟩ = some (.string nm) := by simp [go_sem]
 have q1 : ((w.alloc (.cells #[.string nm, .slice a1 n1 m1, .bool b0, .bool b1, .bool b2, .bool b3, .bool b4, .bool b5] 26)).alloc (.cells #[.string nm, .int .i32 0, .int .i32 0, .slice none 0 0, .slice none 0 0, .bool false] 71)).cell? ⟨w.heap.size, 1, none⟩ = some (.slice a1 n1 m1) := by simp [go_sem]
 have q2 : ((w.alloc (.cells #[.string nm, .slice a1 n1 m1, .bool b0, .bool b1, .bool b2, .bool b3, .bool b4, .bool b5] 26)).alloc (.cells #[.string nm, .int .i32 0, .int .i32 0, .slice none 0 0, .slice none 0 0, .bool false] 71)).cell? ⟨w.heap.size, 2, none⟩ = some (.bool b0) := by simp [go_sem]
 have q3 : ((w.alloc (.cells #[.string nm, .slice a1 n1 m1, .bool b0, .bool b1, .bool b2, .bool b3, .bool b4, .bool b5] 26)).alloc (.cells #[.string nm, .int .i32 0, .int .i32 0, .slice none 0 0, .slice none 0 0, .bool false] 71)).cell? ⟨w.heap.size, 3, none⟩ = some (.bool b1) := by simp [go_sem]
 have q4 : ((w.alloc (.cells #[.string nm, .slice a1 n1 m1, .bool b0, .bool b1, .bool b2, .bool b3, .bool b4, .bool b5] 26)).alloc (.cells #[.string nm, .int .i32 0, .int .i32 0, .slice none 0 0, .slice none 0 0, .bool false] 71)).cell? ⟨w.heap.size, 4, none⟩ = some (.bool b2) := by simp [go_sem]
 have q5 : ((w.alloc (.cells #[.string nm, .slice a1 n1 m1, .bool b0, .bool b1, .bool b2, .bool b3, .bool b4, .bool b5] 26)).alloc (.cells #[.string nm, .int .i32 0, .int .i32 0, .slice none 0 0, .slice none 0 0, .bool false] 71)).cell? ⟨w.heap.size, 5, none⟩ = some (.bool b3) := by simp [go_sem]
 have q6 : ((w.alloc (.cells #[.string nm, .slice a1 n1 m1, .bool b0, .bool b1, .bool b2, .bool b3, .bool b4, .bool b5] 26)).alloc (.cells #[.string nm, .int .i32 0, .int .i32 0, .slice none 0 0, .slice none 0 0, .bool false] 71)).cell? ⟨w.heap.size, 6, none⟩ = some (.bool b4) := by simp [go_sem]
 have q7 : ((w.alloc (.cells #[.string nm, .slice a1 n1 m1, .bool b0, .bool b1, .bool b2, .bool b3, .bool b4, .bool b5] 26)).alloc (.cells #[.string nm, .int .i32 0, .int .i32 0, .slice none 0 0, .slice none 0 0, .bool false] 71)).cell? ⟨w.heap.size, 7, none⟩ = some (.bool b5) := by simp [go_sem]
 clear hS0
 go_wp2_with fail
 go_region_held3 (fun w' => w'.cell? ⟨w.heap.size, 0, none⟩ = some (.string nm) ∧ w'.cell? ⟨w.heap.size, 1, none⟩ = some (.slice a1 n1 m1) ∧ w'.cell? ⟨w.heap.size, 2, none⟩ = some (.bool b0) ∧ w'.cell? ⟨w.heap.size, 3, none⟩ = some (.bool b1) ∧ w'.cell? ⟨w.heap.size, 4, none⟩ = some (.bool b2) ∧ w'.cell? ⟨w.heap.size, 5, none⟩ = some (.bool b3) ∧ w'.cell? ⟨w.heap.size, 6, none⟩ = some (.bool b4) ∧ w'.cell? ⟨w.heap.size, 7, none⟩ = some (.bool b5)) (first | (refine ⟨?_, ?_, ?_, ?_, ?_, ?_, ?_, ?_⟩ <;> assumption) | go_keep) ((first | (go_at_call 21; refine (f21_any W (w.heap.size + 1) nm _ (make_stmt W _ nm d) GS.sh _ ts 0 _ _ _ HR.out (by first | exact HM.out | exact HM.out.after (Below.drewed (Below.refl _ _))) (by have := HZ.out; omega)).mono ?_; rintro e w2 ⟨v2, vi2, vf2, rfl, hM2, hS2, a6, n6, c6, rfl, rfl, e2, e3, e4⟩; have hS2' : Stp (w.heap.size + 1) (.slice none 0 0) (.slice none 0 0) ((w.alloc (.cells #[.string nm, .slice a1 n1 m1, .bool b0, .bool b1, .bool b2, .bool b3, .bool b4, .bool b5] 26)).alloc (.cells #[.string nm, .int .i32 0, .int .i32 0, .slice none 0 0, .slice none 0 0, .bool false] 71)) vi2 vf2 w2 := ⟨fun k hk => hS2.keep k hk, hS2.size⟩; have hd2' : Nds (Sees w2 (New ((w.alloc (.cells #[.string nm, .slice a1 n1 m1, .bool b0, .bool b1, .bool b2, .bool b3, .bool b4, .bool b5] 26)).alloc (.cells #[.string nm, .int .i32 0, .int .i32 0, .slice none 0 0, .slice none 0 0, .bool false] 71)).heap.size (w.heap.size + 1) vi2 vf2 w2)) 0 a6 ts := e4; have z0 := (hS2'.cell (a := ⟨w.heap.size, 0, none⟩) HS0.out).trans q0; have z1 := (hS2'.cell (a := ⟨w.heap.size, 1, none⟩) HS0.out).trans q1; have z2 := (hS2'.cell (a := ⟨w.heap.size, 2, none⟩) HS0.out).trans q2; have z3 := (hS2'.cell (a := ⟨w.heap.size, 3, none⟩) HS0.out).trans q3; have z4 := (hS2'.cell (a := ⟨w.heap.size, 4, none⟩) HS0.out).trans q4; have z5 := (hS2'.cell (a := ⟨w.heap.size, 5, none⟩) HS0.out).trans q5; have z6 := (hS2'.cell (a := ⟨w.heap.size, 6, none⟩) HS0.out).trans q6; have z7 := (hS2'.cell (a := ⟨w.heap.size, 7, none⟩) HS0.out).trans q7; have HM2 := Lib.hid hM2; have HS2 := Lib.hid hS2'; have HD2 := Lib.hid hd2'; clear hM2 hS2 hS2' hd2' e4) | (go_at_call 22; refine (f22_any b0 b1 b2 b3 b4 b5 _).mono ?_; rintro e w3 ⟨⟨g3, rfl⟩, hb3⟩; have hb3' : Below w2.heap.size w2 w3 := bel_from hb3 ⟨rfl, rfl, rfl, rfl⟩; have y0 := (hb3'.cell (p := ⟨w.heap.size, 0, none⟩) (World.block_lt_of_cell? w2 _ z0)).trans z0; have y1 := (hb3'.cell (p := ⟨w.heap.size, 1, none⟩) (World.block_lt_of_cell? w2 _ z1)).trans z1; have y2 := (hb3'.cell (p := ⟨w.heap.size, 2, none⟩) (World.block_lt_of_cell? w2 _ z2)).trans z2; have y3 := (hb3'.cell (p := ⟨w.heap.size, 3, none⟩) (World.block_lt_of_cell? w2 _ z3)).trans z3; have y4 := (hb3'.cell (p := ⟨w.heap.size, 4, none⟩) (World.block_lt_of_cell? w2 _ z4)).trans z4; have y5 := (hb3'.cell (p := ⟨w.heap.size, 5, none⟩) (World.block_lt_of_cell? w2 _ z5)).trans z5; have y6 := (hb3'.cell (p := ⟨w.heap.size, 6, none⟩) (World.block_lt_of_cell? w2 _ z6)).trans z6; have y7 := (hb3'.cell (p := ⟨w.heap.size, 7, none⟩) (World.block_lt_of_cell? w2 _ z7)).trans z7; have HB3 := Lib.hid hb3'; have HM3 := Lib.hid (HM2.out.after hb3'); clear hb3 hb3')))
 obtain ⟨c, l, ho⟩ := HM3.out.obj
 obtain ⟨-, -, -, -, -, c5, -⟩ := ho.cells
 have hgm : w.heap.size + 1 < w3.heap.size := HM3.out.lt
 have c5' : (w3.alloc (.cells #[.pointer none, .string nm, .slice a6 ts.length c6, .nilIface, .pointer (some ⟨g3, 0, none⟩)] 77)).cell? ⟨w.heap.size + 1, 5, none⟩ = some (.bool false) := cell_al _ c5
 clear ho c5 y0 y1 y2 y3 y4 y5 y6 y7 z0 z1 z2 z3 z4 z5 z6 z7 q0 q1 q2 q3 q4 q5 q6 q7
 go_wp2_with fail
 go_region_held3 (fun w' => w'.cell? ⟨w.heap.size + 1, 5, none⟩ = some (.bool false)) (go_keep) (fail)
 all_goals go_wp2
 all_goals refine bodyPost_ret (v := .tuple #[.pointer (some ⟨w3.heap.size, 0, none⟩), .pointer (some ⟨w.heap.size + 1, 0, none⟩), .bool true]) (by simp [results, Tryz.results14, go_sem]) rfl ?_
 all_goals
  have hS3 : Stp (w.heap.size + 1) (.slice none 0 0) (.slice none 0 0) ((w.alloc (.cells #[.string nm, .slice a1 n1 m1, .bool b0, .bool b1, .bool b2, .bool b3, .bool b4, .bool b5] 26)).alloc (.cells #[.string nm, .int .i32 0, .int .i32 0, .slice none 0 0, .slice none 0 0, .bool false] 71)) vi2 vf2 w3 := HS2.out.trans (Stp.of_below HB3.out)
  have hB : Below w.heap.size w w3 := ⟨(HM3.out.bel.os).trans HW.out.os.symm, (HM3.out.bel.tape).trans HW.out.tape.symm, (HM3.out.bel.output).trans HW.out.output.symm, Nat.le_trans HB1.out.size hS3.size, fun k hk => ((hS3.keep k ⟨Nat.lt_of_lt_of_le hk HB1.out.size, by omega, (fun e => by cases e), (fun e => by cases e)⟩).2).trans (HB1.out.block k hk)⟩
  have hBF : Below w.heap.size w (w3.alloc (.cells #[.pointer none, .string nm, .slice a6 ts.length c6, .nilIface, .pointer (some ⟨g3, 0, none⟩)] 77)).drew := (hB.alloc hB.size (.cells #[.pointer none, .string nm, .slice a6 ts.length c6, .nilIface, .pointer (some ⟨g3, 0, none⟩)] 77)).drew
  have hSF : Stp (w.heap.size + 1) vi2 vf2 w2 vi2 vf2 (w3.alloc (.cells #[.pointer none, .string nm, .slice a6 ts.length c6, .nilIface, .pointer (some ⟨g3, 0, none⟩)] 77)).drew := (Stp.of_below HB3.out).trans (Stp.of_below (Below.drewed ((Below.refl _ _).alloc (Nat.le_refl _) (.cells #[.pointer none, .string nm, .slice a6 ts.length c6, .nilIface, .pointer (some ⟨g3, 0, none⟩)] 77))))
  exact ⟨w3.heap.size, w.heap.size + 1, New w.heap.size (w.heap.size + 1) vi2 vf2 (w3.alloc (.cells #[.pointer none, .string nm, .slice a6 ts.length c6, .nilIface, .pointer (some ⟨g3, 0, none⟩)] 77)).drew, rfl, hBF, fun k hk => ⟨hk.1, hk.2.1⟩, .other 46 _ [(2, .row 0)] _ rfl (by have := Fds.row (R := Sees (w3.alloc (.cells #[.pointer none, .string nm, .slice a6 ts.length c6, .nilIface, .pointer (some ⟨g3, 0, none⟩)] 77)).drew (New w.heap.size (w.heap.size + 1) vi2 vf2 (w3.alloc (.cells #[.pointer none, .string nm, .slice a6 ts.length c6, .nilIface, .pointer (some ⟨g3, 0, none⟩)] 77)).drew)) w3.heap.size 2 0 [] a6 ts.length c6 ts [] (sees_at (w' := (w3.alloc (.cells #[.pointer none, .string nm, .slice a6 ts.length c6, .nilIface, .pointer (some ⟨g3, 0, none⟩)] 77)).drew) (heap_alloc_new w3 (.cells #[.pointer none, .string nm, .slice a6 ts.length c6, .nilIface, .pointer (some ⟨g3, 0, none⟩)] 77)) ⟨hB.size, HM3.out.safe_new (Nat.le_refl _) (lt1 w3 (.cells #[.pointer none, .string nm, .slice a6 ts.length c6, .nilIface, .pointer (some ⟨g3, 0, none⟩)] 77))⟩ 2 _ rfl) (HD2.out.step hSF HB1.out.size) rfl (.nil _); rwa [List.append_nil] at this)⟩
end Go.Proofs.YtabeokminikfdaaGreat
namespace Go.Proofs.YtabeokminikfdaaGreat
open Go.RowKit
def Walked (few : Int) (ts : List Tr) (w : World) (e : Ending) (w' : World) : Prop := ∃ v : Value, e = .returned (.tuple #[v, .int .i64 ((visit few (.mk none ts) ⟨[], 0, 0⟩).n : Int), .int .i64 ((visit few (.mk none ts) ⟨[], 0, 0⟩).e : Int), .bool true]) ∧ Below w.heap.size w w' ∧ Strs w' v (visit few (.mk none ts) ⟨[], 0, 0⟩).names
theorem own_strs {w : World} {B : Nat} {v : Value} {l : List ByteArray} (h : w.ownsRow B 9 1 v l.length (l.map Value.string)) : Strs w v l := by
 rcases h.2 with ⟨rfl, h0⟩ | ⟨g, cap, cur, rfl, hg, hcur, hn, hm, hcs, htk⟩
 ·exact .inl ⟨List.eq_nil_of_length_eq_zero h0, .inl rfl⟩
 ·by_cases h0 : l.length = 0
  ·obtain rfl := List.eq_nil_of_length_eq_zero h0
   exact .inl ⟨rfl, .inr ⟨_, _, rfl⟩⟩
  ·refine .inr ⟨by omega, g, 0, cap, rfl, hn, fun i hi => ?_⟩
   have := World.ownsRow.cells h rfl i (.string l[i]) (by rw [List.getElem?_map, List.getElem?_eq_getElem hi]; rfl)
   rw [List.getD_eq_getElem?_getD, List.getElem?_eq_getElem hi]
   by_cases h1 : i = 0
   ·subst h1
    simpa [Addr.add] using this
   ·simpa [Addr.add, h1] using this
theorem cell_set_same {X : World} {a b : Addr} {u v : Value} (h : X.cell? b = some v) (hab : a = b → u = v) : (X.setCell a u).cell? b = some v := by
 by_cases he : a = b
 ·subst he
  obtain rfl := hab rfl
  exact World.cell?_setCell_same X a u h
 ·exact (World.cell?_setCell_other X a b u he).trans h
theorem five (w : World) (a b c d e : Obj) : (((((w.alloc a).alloc b).alloc c).alloc d).alloc e).heap[w.heap.size + 1]? = some b ∧ (((((w.alloc a).alloc b).alloc c).alloc d).alloc e).heap[w.heap.size + 1 + 1]? = some c ∧ (((((w.alloc a).alloc b).alloc c).alloc d).alloc e).heap[w.heap.size + 1 + 1 + 1]? = some d ∧ (((((w.alloc a).alloc b).alloc c).alloc d).alloc e).heap[w.heap.size + 1 + 1 + 1 + 1]? = some e := by
 have h1 := sz1 w a
 have h2 := sz1 (w.alloc a) b
 have h3 := sz1 ((w.alloc a).alloc b) c
 have h4 := sz1 (((w.alloc a).alloc b).alloc c) d
 have n1 := heap_alloc_new (w.alloc a) b
 have n2 := heap_alloc_new ((w.alloc a).alloc b) c
 have n3 := heap_alloc_new (((w.alloc a).alloc b).alloc c) d
 have n4 := heap_alloc_new ((((w.alloc a).alloc b).alloc c).alloc d) e
 rw [h1] at h2 n1
 rw [h2] at h3 n2
 rw [h3] at h4 n3
 rw [h4] at n4
 refine ⟨?_, ?_, ?_, n4⟩
 ·exact (Below.heap_alloc _ e _ (by omega)).trans ((Below.heap_alloc _ d _ (by omega)).trans ((Below.heap_alloc _ c _ (by omega)).trans n1))
 ·exact (Below.heap_alloc _ e _ (by omega)).trans ((Below.heap_alloc _ d _ (by omega)).trans n2)
 ·exact (Below.heap_alloc _ e _ (by omega)).trans n3
theorem f11_any (W : World) (d : Nat) (nm : ByteArray) (a1 : Option Addr) (n1 m1 : Nat) (b0 b1 b2 b3 b4 b5 : Bool) (few : Int) (ts : List Tr) (w : World) (hR : RowOf W 8 (SQ (GS false W d)) (.slice a1 n1 m1) ts) (hz : sizes ts ≤ 900000) (hW : Below W.heap.size W w) :
  Calls Tryz.prog 11 #[.agg #[.string nm, .slice a1 n1 m1, .bool b0, .bool b1, .bool b2, .bool b3, .bool b4, .bool b5], .int .i64 few] w (Walked few ts w) := by
 have HR := Lib.hid hR
 have HZ := Lib.hid hz
 have HB0 : Hid (Below w.heap.size w (((((w.alloc (.cells #[.string nm, .slice a1 n1 m1, .bool b0, .bool b1, .bool b2, .bool b3, .bool b4, .bool b5] 26)).alloc (.cells #[.int .i64 few] 3)).alloc (.cells #[.slice none 0 0] 30)).alloc (.cells #[.int .i64 0] 3)).alloc (.cells #[.int .i64 0] 3))) := Lib.hid (((bA.alloc (by simp) _).alloc (by simp; omega) _).alloc (by simp; omega) _ |>.alloc (by simp; omega) _)
 have HW0 := Lib.hid (hW.trans (HB0.out.mono hW.size))
 have HRR := Lib.hid (five w (.cells #[.string nm, .slice a1 n1 m1, .bool b0, .bool b1, .bool b2, .bool b3, .bool b4, .bool b5] 26) (.cells #[.int .i64 few] 3) (.cells #[.slice none 0 0] 30) (.cells #[.int .i64 0] 3) (.cells #[.int .i64 0] 3))
 have HS0 : Hid ((((((w.alloc (.cells #[.string nm, .slice a1 n1 m1, .bool b0, .bool b1, .bool b2, .bool b3, .bool b4, .bool b5] 26)).alloc (.cells #[.int .i64 few] 3)).alloc (.cells #[.slice none 0 0] 30)).alloc (.cells #[.int .i64 0] 3)).alloc (.cells #[.int .i64 0] 3)).heap.size = w.heap.size + 5) := Lib.hid (by simp)
 have hmf : ∀ (fn : Fn) (first cap : Array Value) (w : World), (Instr.makeFunc fn first cap).run Tryz.prog w = .ok (.func fn first cap) w := fun _ _ _ _ => rfl
 clear hR hz hW
 go_enter Tryz.func11, Tryz.ntmps11
 go_wp2_with fail
 refine (f14_any W d nm a1 n1 m1 b0 b1 b2 b3 b4 b5 ts _ HR.out (by have := HZ.out; omega) HW0.out).mono ?_
 rintro e w1 ⟨g, gm, P, rfl, hb, hP, hd⟩
 obtain ⟨r1, r2, r3, r4⟩ := HRR.out
 have o1 : One w1 (w.heap.size + 1) (.int .i64 few) 3 := (hb.block _ (by rw [HS0.out]; omega)).trans r1
 have o2 : One w1 (w.heap.size + 1 + 1) (.slice none 0 0) 30 := (hb.block _ (by rw [HS0.out]; omega)).trans r2
 have o3 : One w1 (w.heap.size + 1 + 1 + 1) (.int .i64 0) 3 := (hb.block _ (by rw [HS0.out]; omega)).trans r3
 have o4 : One w1 (w.heap.size + 1 + 1 + 1 + 1) (.int .i64 0) 3 := (hb.block _ (by rw [HS0.out]; omega)).trans r4
 have hsz1 : w.heap.size + 5 ≤ w1.heap.size := by have := hb.size; rw [HS0.out] at this; exact this
 have HCL : Hid (CL w1 w1.heap.size (w.heap.size + 1 + 1 + 1 + 1) (w.heap.size + 1 + 1 + 1) (w.heap.size + 1 + 1) (w.heap.size + 1) few (.slice none 0 0) ⟨[], 0, 0⟩) := Lib.hid ⟨o4, o3, o2, o1, ⟨rfl, .inl ⟨rfl, rfl⟩⟩, by omega, by omega⟩
 have HRd : Hid (Reads (fun k => k < w.heap.size ∨ P k) w1.heap.size (w.heap.size + 1 + 1 + 1 + 1) (w.heap.size + 1 + 1 + 1) (w.heap.size + 1 + 1) (w.heap.size + 1)) := Lib.hid (fun k hk => by
  rcases hk with hk | hk
  ·exact ⟨by omega, by omega, by omega, by omega, by omega⟩
  ·obtain ⟨h1, h2⟩ := hP k hk
   rw [HS0.out] at h1
   exact ⟨h2, by omega, by omega, by omega, by omega⟩)
 have HD := Lib.hid (hd.mono (Sees.mono (P' := fun k => k < w.heap.size ∨ P k) (fun k hk => .inr hk) fun _ _ => rfl))
 have HB1 := Lib.hid (HB0.out.trans (hb.mono HB0.out.size))
 clear hb hP hd r1 r2 r3 r4 o1 o2 o3 o4
 go_wp2_with fail
 refine (walk_all _ _ _ _ _ _ few HRd.out (Tr.mk none ts).size _ (.mk none ts) ⟨[], 0, 0⟩ _ w1 (Nat.le_refl _) (by have := HZ.out; simp only [Tr.size]; omega) (Nat.le_refl _) (Nat.le_refl _) HCL.out (Nat.le_refl _) HD.out).mono ?_
 rintro e w2 ⟨rfl, ⟨v, hC⟩, hs, hk, ho, ht, hu⟩
 generalize hst : visit few (.mk none ts) ⟨[], 0, 0⟩ = st at hC
 obtain ⟨VA, VC, rfl⟩ := own_len hC.row
 have x1 := hC.l.cell
 have x2 := hC.n.cell
 have x3 := hC.e.cell
 have y1 := hC.l.free 0
 have y2 := hC.n.free 0
 have y3 := hC.e.free 0
 have HC := Lib.hid hC
 have HB2 : Hid (Below w.heap.size w w2) := Lib.hid ⟨ho.trans HB1.out.os, ht.trans HB1.out.tape, hu.trans HB1.out.output, Nat.le_trans HB1.out.size hs, fun k hk' => (hk k (.inl hk')).trans (HB1.out.block k hk')⟩
 clear hC hs hk ho ht hu
 have HST := Lib.hid hst
 clear hst
 go_wp2_with fail
 have f1 : w2.drew.frozen? ⟨w.heap.size + 1 + 1, 0, none⟩ = false := y1
 have f2 : w2.drew.frozen? ⟨w.heap.size + 1 + 1 + 1, 0, none⟩ = false := y2
 have f3 : w2.drew.frozen? ⟨w.heap.size + 1 + 1 + 1 + 1, 0, none⟩ = false := y3
 refine wp_region_held_drew (S := fun w' => w'.cell? ⟨w.heap.size + 1 + 1, 0, none⟩ = some (.slice VA st.names.length VC) ∧ w'.cell? ⟨w.heap.size + 1 + 1 + 1, 0, none⟩ = some (.int .i64 (st.n : Int)) ∧ w'.cell? ⟨w.heap.size + 1 + 1 + 1 + 1, 0, none⟩ = some (.int .i64 (st.e : Int))) (by kernel_rfl) ⟨cell_dr x1, cell_dr x2, cell_dr x3⟩ (fun hHeld => ?_)
 refine wpAnyH_take (i := 0) (oi := ?oQ0) (v := ?vQ0) ?hQ0 (by kernel_rfl) (by kernel_rfl) (by kernel_rfl) ?qQ0 ?yQ0 hHeld ?rQ0
 case hQ0 => (simp only [List.getElem?_toArray, List.getElem?_cons_zero]; exact rfl)
 case qQ0 => exact fun _ _ _ h => h
 case yQ0 =>
  refine Or.inl ⟨by rfl, ?_⟩
  intro Wx hSw
  (try dsimp only at hSw)
  go_simp
  (try with_reducible rfl)
 try simp only [Act.put, List.setIfInBounds_toArray, List.set_cons_zero, List.set_cons_succ]
 refine wpAnyH_take (i := 1) (oi := ?oQ1) (v := ?vQ1) ?hQ1 (by kernel_rfl) (by kernel_rfl) (by kernel_rfl) ?qQ1 ?yQ1 hHeld ?rQ1
 case hQ1 => (simp only [List.getElem?_toArray, List.getElem?_cons_succ, List.getElem?_cons_zero]; exact rfl)
 case qQ1 => exact fun _ _ _ h => h
 case yQ1 =>
  refine Or.inl ⟨by rfl, ?_⟩
  intro Wx hSw
  (try dsimp only at hSw)
  go_simp
  (try with_reducible rfl)
 try simp only [Act.put, List.setIfInBounds_toArray, List.set_cons_zero, List.set_cons_succ]
 refine wpAnyH_take (i := 2) (oi := ?oQ2) (v := ?vQ2) ?hQ2 (by kernel_rfl) (by kernel_rfl) (by kernel_rfl) ?qQ2 ?yQ2 hHeld ?rQ2
 case hQ2 => (simp only [List.getElem?_toArray, List.getElem?_cons_succ, List.getElem?_cons_zero]; exact rfl)
 case qQ2 => exact fun _ _ _ h => h
 case yQ2 =>
  refine Or.inl ⟨by rfl, ?_⟩
  intro Wx hSw
  (try dsimp only at hSw)
  go_simp
  (try with_reducible rfl)
 try simp only [Act.put, List.setIfInBounds_toArray, List.set_cons_zero, List.set_cons_succ]
 refine wpAnyH_ready (rs := [3]) (by kernel_rfl) (by simp) ?_
 refine AllReadyH.cons (o := ?oC3) ?hC3 (fun K hK => ?sC3) AllReadyH.nil
 case hC3 => (simp only [List.getElem?_toArray, List.getElem?_cons_succ, List.getElem?_cons_zero]; exact rfl)
 go_simp
 refine hK.out _ _ ⟨cell_set_same hHeld.1 (fun _ => rfl), cell_set_same hHeld.2.1 (fun h => absurd (congrArg Addr.block h) (by show ¬ (w.heap.size + 1 + 1 = w.heap.size + 1 + 1 + 1); omega)), cell_set_same hHeld.2.2 (fun h => absurd (congrArg Addr.block h) (by show ¬ (w.heap.size + 1 + 1 = w.heap.size + 1 + 1 + 1 + 1); omega))⟩ (fun hHeld => ?_)
 clear hK K
 try simp only [Act.put, List.setIfInBounds_toArray, List.set_cons_zero, List.set_cons_succ]
 refine wpAnyH_ready (rs := [4]) (by kernel_rfl) (by simp) ?_
 refine AllReadyH.cons (o := ?oC4) ?hC4 (fun K hK => ?sC4) AllReadyH.nil
 case hC4 => (simp only [List.getElem?_toArray, List.getElem?_cons_succ, List.getElem?_cons_zero]; exact rfl)
 go_simp
 refine hK.out _ _ ⟨cell_set_same hHeld.1 (fun h => absurd (congrArg Addr.block h) (by show ¬ (w.heap.size + 1 + 1 + 1 = w.heap.size + 1 + 1); omega)), cell_set_same hHeld.2.1 (fun _ => rfl), cell_set_same hHeld.2.2 (fun h => absurd (congrArg Addr.block h) (by show ¬ (w.heap.size + 1 + 1 + 1 = w.heap.size + 1 + 1 + 1 + 1); omega))⟩ (fun hHeld => ?_)
 clear hK K
 try simp only [Act.put, List.setIfInBounds_toArray, List.set_cons_zero, List.set_cons_succ]
 refine wpAnyH_ready (rs := [5]) (by kernel_rfl) (by simp) ?_
 refine AllReadyH.cons (o := ?oC5) ?hC5 (fun K hK => ?sC5) AllReadyH.nil
 case hC5 => (simp only [List.getElem?_toArray, List.getElem?_cons_succ, List.getElem?_cons_zero]; exact rfl)
 go_simp
 refine hK.out _ _ ⟨cell_set_same hHeld.1 (fun h => absurd (congrArg Addr.block h) (by show ¬ (w.heap.size + 1 + 1 + 1 + 1 = w.heap.size + 1 + 1); omega)), cell_set_same hHeld.2.1 (fun h => absurd (congrArg Addr.block h) (by show ¬ (w.heap.size + 1 + 1 + 1 + 1 = w.heap.size + 1 + 1 + 1); omega)), cell_set_same hHeld.2.2 (fun _ => rfl)⟩ (fun hHeld => ?_)
 clear hK K
 try simp only [Act.put, List.setIfInBounds_toArray, List.set_cons_zero, List.set_cons_succ]
 refine wpAnyH_take (i := 6) (oi := ?oQ6) (v := ?vQ6) ?hQ6 (by kernel_rfl) (by kernel_rfl) (by kernel_rfl) ?qQ6 ?yQ6 hHeld ?rQ6
 case hQ6 => (simp only [List.getElem?_toArray, List.getElem?_cons_succ, List.getElem?_cons_zero]; exact rfl)
 case qQ6 => exact fun _ _ _ h => h
 case yQ6 =>
  refine Or.inl ⟨by rfl, ?_⟩
  intro Wx hSw
  (try dsimp only at hSw)
  go_simp
  (try with_reducible rfl)
 try simp only [Act.put, List.setIfInBounds_toArray, List.set_cons_zero, List.set_cons_succ]
 refine wpAnyH_done (by kernel_rfl) ?_ _
 obtain ⟨z1, z2, z3⟩ := hHeld
 have HZ1 := Lib.hid z1
 go_wp2
 refine bodyPost_ret (v := .tuple #[.slice VA st.names.length VC, .int .i64 (st.n : Int), .int .i64 (st.e : Int), .bool true]) (by simp [results, Tryz.results11, go_sem, z1, z2, z3]) rfl ?_
 refine ⟨.slice VA st.names.length VC, by rw [HST.out], (((HB2.out.drew).setCell (show w.heap.size ≤ (⟨w.heap.size + 1 + 1, 0, none⟩ : Addr).block by show w.heap.size ≤ w.heap.size + 1 + 1; omega) _).setCell (show w.heap.size ≤ (⟨w.heap.size + 1 + 1 + 1, 0, none⟩ : Addr).block by show w.heap.size ≤ w.heap.size + 1 + 1 + 1; omega) _).setCell (show w.heap.size ≤ (⟨w.heap.size + 1 + 1 + 1 + 1, 0, none⟩ : Addr).block by show w.heap.size ≤ w.heap.size + 1 + 1 + 1 + 1; omega) _, ?_⟩
 rw [HST.out]
 exact own_strs (own_setOld (own_setOld (own_setOld (own_heap HC.out.row rfl) (a := ⟨w.heap.size + 1 + 1, 0, none⟩) (by show w.heap.size + 1 + 1 < w1.heap.size; omega) _) (a := ⟨w.heap.size + 1 + 1 + 1, 0, none⟩) (by show w.heap.size + 1 + 1 + 1 < w1.heap.size; omega) _) (a := ⟨w.heap.size + 1 + 1 + 1 + 1, 0, none⟩) (by show w.heap.size + 1 + 1 + 1 + 1 < w1.heap.size; omega) _)
end Go.Proofs.YtabeokminikfdaaGreat
namespace Go.Proofs.YtabeokminikfdaaGreat
open Go.RowKit
theorem f7_any (W : World) (d : Nat) (nm : ByteArray) (a1 : Option Addr) (n1 m1 : Nat) (b0 b1 b2 b3 b4 b5 : Bool) (ts : List Tr) (w : World) (hR : RowOf W 8 (SQ (GS false W d)) (.slice a1 n1 m1) ts) (hz : sizes ts ≤ 900000) (hW : Below W.heap.size W w) :
  Calls Tryz.prog 7 #[.agg #[.string nm, .slice a1 n1 m1, .bool b0, .bool b1, .bool b2, .bool b3, .bool b4, .bool b5]] w (Walked (-1) ts w) := by
 have HR := Lib.hid hR
 have HZ := Lib.hid hz
 have HB0 : Hid (Below w.heap.size w (w.alloc (.cells #[.string nm, .slice a1 n1 m1, .bool b0, .bool b1, .bool b2, .bool b3, .bool b4, .bool b5] 26))) := Lib.hid bA
 have HW0 := Lib.hid (hW.trans (HB0.out.mono hW.size))
 clear hR hz hW
 go_enter Tryz.func7, Tryz.ntmps7
 go_wp2_with fail
 refine (f11_any W d nm a1 n1 m1 b0 b1 b2 b3 b4 b5 (-1) ts _ HR.out HZ.out HW0.out).mono ?_
 rintro e w1 ⟨v, rfl, hb, hs⟩
 have HS := Lib.hid hs
 have HB1 := Lib.hid (HB0.out.trans (hb.mono HB0.out.size))
 clear hs hb
 generalize hst : visit (-1) (.mk none ts) ⟨[], 0, 0⟩ = st at *
 have HST := Lib.hid hst
 clear hst
 go_wp2
 refine bodyPost_ret (v := .tuple #[v, .int .i64 (st.n : Int), .int .i64 (st.e : Int), .bool true]) (by simp [results, Tryz.results7, go_sem]) rfl ?_
 refine ⟨v, by rw [HST.out], HB1.out, by rw [HST.out]; exact HS.out⟩
theorem f8_0 (W : World) (d : Nat) (nm : ByteArray) (a1 : Option Addr) (n1 m1 : Nat) (b0 b1 b2 b3 b4 b5 : Bool) (ts : List Tr) (w : World) (hR : RowOf W 8 (SQ (GS false W d)) (.slice a1 n1 m1) ts) (hz : sizes ts ≤ 900000) (hW : Below W.heap.size W w) :
  Calls Tryz.prog 8 #[.agg #[.string nm, .slice a1 n1 m1, .bool b0, .bool b1, .bool b2, .bool b3, .bool b4, .bool b5], .int .i64 0] w (Walked 0 ts w) := by
 have HR := Lib.hid hR
 have HZ := Lib.hid hz
 have HB0 : Hid (Below w.heap.size w (w.alloc (.cells #[.string nm, .slice a1 n1 m1, .bool b0, .bool b1, .bool b2, .bool b3, .bool b4, .bool b5] 26))) := Lib.hid bA
 have HW0 := Lib.hid (hW.trans (HB0.out.mono hW.size))
 clear hR hz hW
 go_enter Tryz.func8, Tryz.ntmps8
 go_wp2_with fail
 refine (f11_any W d nm a1 n1 m1 b0 b1 b2 b3 b4 b5 0 ts _ HR.out HZ.out HW0.out).mono ?_
 rintro e w1 ⟨v, rfl, hb, hs⟩
 have HS := Lib.hid hs
 have HB1 := Lib.hid (HB0.out.trans (hb.mono HB0.out.size))
 clear hs hb
 generalize hst : visit 0 (.mk none ts) ⟨[], 0, 0⟩ = st at *
 have HST := Lib.hid hst
 clear hst
 go_wp2
 refine bodyPost_ret (v := .tuple #[v, .int .i64 (st.n : Int), .int .i64 (st.e : Int), .bool true]) (by simp [results, Tryz.results8, go_sem]) rfl ?_
 refine ⟨v, by rw [HST.out], HB1.out, by rw [HST.out]; exact HS.out⟩
theorem f8_pos (W : World) (d : Nat) (nm : ByteArray) (a1 : Option Addr) (n1 m1 : Nat) (b0 b1 b2 b3 b4 b5 : Bool) (k : Nat) (hk : 0 < k) (ts : List Tr) (w : World) (hR : RowOf W 8 (SQ (GS false W d)) (.slice a1 n1 m1) ts) (hz : sizes ts ≤ 900000) (hW : Below W.heap.size W w) :
  Calls Tryz.prog 8 #[.agg #[.string nm, .slice a1 n1 m1, .bool b0, .bool b1, .bool b2, .bool b3, .bool b4, .bool b5], .int .i64 (k : Int)] w (Walked (k : Int) ts w) := by
 have HR := Lib.hid hR
 have HZ := Lib.hid hz
 have HB0 : Hid (Below w.heap.size w (w.alloc (.cells #[.string nm, .slice a1 n1 m1, .bool b0, .bool b1, .bool b2, .bool b3, .bool b4, .bool b5] 26))) := Lib.hid bA
 have HW0 := Lib.hid (hW.trans (HB0.out.mono hW.size))
 have hk0 : (0 : Int) < (k : Int) := by omega
 clear hR hz hW
 go_enter Tryz.func8, Tryz.ntmps8
 go_wp2_with fail
 refine (f11_any W d nm a1 n1 m1 b0 b1 b2 b3 b4 b5 (k : Int) ts _ HR.out HZ.out HW0.out).mono ?_
 rintro e w1 ⟨v, rfl, hb, hs⟩
 have HS := Lib.hid hs
 have HB1 := Lib.hid (HB0.out.trans (hb.mono HB0.out.size))
 clear hs hb
 generalize hst : visit (k : Int) (.mk none ts) ⟨[], 0, 0⟩ = st at *
 have HST := Lib.hid hst
 clear hst
 go_wp2
 refine bodyPost_ret (v := .tuple #[v, .int .i64 (st.n : Int), .int .i64 (st.e : Int), .bool true]) (by simp [results, Tryz.results8, go_sem]) rfl ?_
 refine ⟨v, by rw [HST.out], HB1.out, by rw [HST.out]; exact HS.out⟩
theorem f8_any (W : World) (d : Nat) (nm : ByteArray) (a1 : Option Addr) (n1 m1 : Nat) (b0 b1 b2 b3 b4 b5 : Bool) (k : Nat) (ts : List Tr) (w : World) (hR : RowOf W 8 (SQ (GS false W d)) (.slice a1 n1 m1) ts) (hz : sizes ts ≤ 900000) (hW : Below W.heap.size W w) :
  Calls Tryz.prog 8 #[.agg #[.string nm, .slice a1 n1 m1, .bool b0, .bool b1, .bool b2, .bool b3, .bool b4, .bool b5], .int .i64 (k : Int)] w (Walked (k : Int) ts w) := by
 rcases Nat.eq_zero_or_pos k with rfl | hk
 ·exact f8_0 W d nm a1 n1 m1 b0 b1 b2 b3 b4 b5 ts w hR hz hW
 ·exact f8_pos W d nm a1 n1 m1 b0 b1 b2 b3 b4 b5 k hk ts w hR hz hW
end Go.Proofs.YtabeokminikfdaaGreat
