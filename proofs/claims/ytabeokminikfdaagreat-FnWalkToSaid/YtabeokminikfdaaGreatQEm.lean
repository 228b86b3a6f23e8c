import Derived.Test.YtabeokminikfdaaGreatQEg
import Derived.Test.YtabeokminikfdaaGreatQBt
import Derived.OpenShut
import Derived.Deep.Slices
import Derived.Test.YtabeokminikfdaaGreatQA1
set_option linter.all false
set_option maxRecDepth 100000
set_option maxHeartbeats 8000000
namespace Go.Proofs.YtabeokminikfdaaGreat
open Go.RowKit
mutual
theorem names_le : ∀ t : Tr, t.all.length ≤ t.size
 | .mk nm ks => by
  have := names_les ks
  have h1 : nm.toList.length ≤ 1 := by cases nm <;> simp
  simp only [Tr.all, Tr.size, List.length_append]
  omega
theorem names_les : ∀ ts : List Tr, (alls ts).length ≤ sizes ts
 | [] => by simp [alls, sizes]
 | t :: ts => by
  have h1 := names_le t
  have h2 := names_les ts
  simp only [alls, sizes, List.length_append]
  omega
end
def LawQ (W : World) (e : Ending) (w' : World) : Prop := e = .returned (.bool true) ∧ Below W.heap.size W w'
theorem f3_any (W : World) (d : Nat) (nm : ByteArray) (a1 : Option Addr) (n1 m1 : Nat) (b0 b1 b2 b3 b4 b5 : Bool) (k : Nat) (hk : k ≤ 255) (hl : nm.size ≤ maxLen) (hn : n1 ≤ maxLen) (hv : SSs d W (.slice a1 n1 m1) n1) :
  Calls Tryz.prog 3 #[.agg #[.string nm, .slice a1 n1 m1, .bool b0, .bool b1, .bool b2, .bool b3, .bool b4, .bool b5], .int .u8 (k : Int)] W (LawQ W) := by
 have HL := Lib.hid hl
 have HNn := Lib.hid hn
 have HV := Lib.hid hv
 have HB0 : Hid (Below W.heap.size W (W.alloc (.cells #[.string nm, .slice a1 n1 m1, .bool b0, .bool b1, .bool b2, .bool b3, .bool b4, .bool b5] 26))) := Lib.hid bA
 have hk0 : (0 : Int) ≤ (k : Int) := by omega
 have hk1 : (k : Int) ≤ 255 := by omega
 clear hl hn hv
 go_enter Tryz.func3, Tryz.ntmps3
 go_wp2_with fail
 have p0 : (W.alloc (.cells #[.string nm, .slice a1 n1 m1, .bool b0, .bool b1, .bool b2, .bool b3, .bool b4, .bool b5] 26)).cell? ⟨W.heap.size, 0, none⟩ = some (.string nm) := by simp [go_sem]
 have p1 : (W.alloc (.cells #[.string nm, .slice a1 n1 m1, .bool b0, .bool b1, .bool b2, .bool b3, .bool b4, .bool b5] 26)).cell? ⟨W.heap.size, 1, none⟩ = some (.slice a1 n1 m1) := by simp [go_sem]
 have p2 : (W.alloc (.cells #[.string nm, .slice a1 n1 m1, .bool b0, .bool b1, .bool b2, .bool b3, .bool b4, .bool b5] 26)).cell? ⟨W.heap.size, 2, none⟩ = some (.bool b0) := by simp [go_sem]
 have p3 : (W.alloc (.cells #[.string nm, .slice a1 n1 m1, .bool b0, .bool b1, .bool b2, .bool b3, .bool b4, .bool b5] 26)).cell? ⟨W.heap.size, 3, none⟩ = some (.bool b1) := by simp [go_sem]
 have p4 : (W.alloc (.cells #[.string nm, .slice a1 n1 m1, .bool b0, .bool b1, .bool b2, .bool b3, .bool b4, .bool b5] 26)).cell? ⟨W.heap.size, 4, none⟩ = some (.bool b2) := by simp [go_sem]
 have p5 : (W.alloc (.cells #[.string nm, .slice a1 n1 m1, .bool b0, .bool b1, .bool b2, .bool b3, .bool b4, .bool b5] 26)).cell? ⟨W.heap.size, 5, none⟩ = some (.bool b3) := by simp [go_sem]
 have p6 : (W.alloc (.cells #[.string nm, .slice a1 n1 m1, .bool b0, .bool b1, .bool b2, .bool b3, .bool b4, .bool b5] 26)).cell? ⟨W.heap.size, 6, none⟩ = some (.bool b4) := by simp [go_sem]
 have p7 : (W.alloc (.cells #[.string nm, .slice a1 n1 m1, .bool b0, .bool b1, .bool b2, .bool b3, .bool b4, .bool b5] 26)).cell? ⟨W.heap.size, 7, none⟩ = some (.bool b5) := by simp [go_sem]
 refine (f4_any nm a1 n1 m1 b0 b1 b2 b3 b4 b5 _ HL.out HNn.out).mono ?_
 rintro e w1 ⟨b, rfl, hb1⟩
 have q0 := (hb1.cell (p := ⟨W.heap.size, 0, none⟩) (World.block_lt_of_cell? (W.alloc (.cells #[.string nm, .slice a1 n1 m1, .bool b0, .bool b1, .bool b2, .bool b3, .bool b4, .bool b5] 26)) _ p0)).trans p0
 have q1 := (hb1.cell (p := ⟨W.heap.size, 1, none⟩) (World.block_lt_of_cell? (W.alloc (.cells #[.string nm, .slice a1 n1 m1, .bool b0, .bool b1, .bool b2, .bool b3, .bool b4, .bool b5] 26)) _ p1)).trans p1
 have q2 := (hb1.cell (p := ⟨W.heap.size, 2, none⟩) (World.block_lt_of_cell? (W.alloc (.cells #[.string nm, .slice a1 n1 m1, .bool b0, .bool b1, .bool b2, .bool b3, .bool b4, .bool b5] 26)) _ p2)).trans p2
 have q3 := (hb1.cell (p := ⟨W.heap.size, 3, none⟩) (World.block_lt_of_cell? (W.alloc (.cells #[.string nm, .slice a1 n1 m1, .bool b0, .bool b1, .bool b2, .bool b3, .bool b4, .bool b5] 26)) _ p3)).trans p3
 have q4 := (hb1.cell (p := ⟨W.heap.size, 4, none⟩) (World.block_lt_of_cell? (W.alloc (.cells #[.string nm, .slice a1 n1 m1, .bool b0, .bool b1, .bool b2, .bool b3, .bool b4, .bool b5] 26)) _ p4)).trans p4
 have q5 := (hb1.cell (p := ⟨W.heap.size, 5, none⟩) (World.block_lt_of_cell? (W.alloc (.cells #[.string nm, .slice a1 n1 m1, .bool b0, .bool b1, .bool b2, .bool b3, .bool b4, .bool b5] 26)) _ p5)).trans p5
 have q6 := (hb1.cell (p := ⟨W.heap.size, 6, none⟩) (World.block_lt_of_cell? (W.alloc (.cells #[.string nm, .slice a1 n1 m1, .bool b0, .bool b1, .bool b2, .bool b3, .bool b4, .bool b5] 26)) _ p6)).trans p6
 have q7 := (hb1.cell (p := ⟨W.heap.size, 7, none⟩) (World.block_lt_of_cell? (W.alloc (.cells #[.string nm, .slice a1 n1 m1, .bool b0, .bool b1, .bool b2, .bool b3, .bool b4, .bool b5] 26)) _ p7)).trans p7
 have HB1 := Lib.hid (HB0.out.trans (hb1.mono HB0.out.size))
 clear hb1 p0 p1 p2 p3 p4 p5 p6 p7
 cases b
 ·go_wp2
  go_ret
  exact ⟨rfl, HB1.out⟩
 ·go_wp2_with fail
  refine (f5_any W d nm a1 n1 m1 b0 b1 b2 b3 b4 b5 _ HL.out HV.out HB1.out).mono ?_
  rintro e w2 ⟨b, rfl, hb2, hq2⟩
  have r0 := (hb2.cell (p := ⟨W.heap.size, 0, none⟩) (World.block_lt_of_cell? w1 _ q0)).trans q0
  have r1 := (hb2.cell (p := ⟨W.heap.size, 1, none⟩) (World.block_lt_of_cell? w1 _ q1)).trans q1
  have r2 := (hb2.cell (p := ⟨W.heap.size, 2, none⟩) (World.block_lt_of_cell? w1 _ q2)).trans q2
  have r3 := (hb2.cell (p := ⟨W.heap.size, 3, none⟩) (World.block_lt_of_cell? w1 _ q3)).trans q3
  have r4 := (hb2.cell (p := ⟨W.heap.size, 4, none⟩) (World.block_lt_of_cell? w1 _ q4)).trans q4
  have r5 := (hb2.cell (p := ⟨W.heap.size, 5, none⟩) (World.block_lt_of_cell? w1 _ q5)).trans q5
  have r6 := (hb2.cell (p := ⟨W.heap.size, 6, none⟩) (World.block_lt_of_cell? w1 _ q6)).trans q6
  have r7 := (hb2.cell (p := ⟨W.heap.size, 7, none⟩) (World.block_lt_of_cell? w1 _ q7)).trans q7
  have HB2 := Lib.hid (HB1.out.trans (hb2.mono HB1.out.size))
  have HQ2 := Lib.hid hq2
  clear hb2 hq2 q0 q1 q2 q3 q4 q5 q6 q7
  cases b
  ·go_wp2
   go_ret
   exact ⟨rfl, HB2.out⟩
  ·have HT := Lib.hid (HQ2.out rfl)
   clear HQ2
   go_wp2_with fail
   refine (f6_any W d _ n1 _ HV.out HB2.out).mono ?_
   rintro e w3 ⟨b, rfl, hb3, hq3⟩
   have s0 := (hb3.cell (p := ⟨W.heap.size, 0, none⟩) (World.block_lt_of_cell? w2 _ r0)).trans r0
   have s1 := (hb3.cell (p := ⟨W.heap.size, 1, none⟩) (World.block_lt_of_cell? w2 _ r1)).trans r1
   have s2 := (hb3.cell (p := ⟨W.heap.size, 2, none⟩) (World.block_lt_of_cell? w2 _ r2)).trans r2
   have s3 := (hb3.cell (p := ⟨W.heap.size, 3, none⟩) (World.block_lt_of_cell? w2 _ r3)).trans r3
   have s4 := (hb3.cell (p := ⟨W.heap.size, 4, none⟩) (World.block_lt_of_cell? w2 _ r4)).trans r4
   have s5 := (hb3.cell (p := ⟨W.heap.size, 5, none⟩) (World.block_lt_of_cell? w2 _ r5)).trans r5
   have s6 := (hb3.cell (p := ⟨W.heap.size, 6, none⟩) (World.block_lt_of_cell? w2 _ r6)).trans r6
   have s7 := (hb3.cell (p := ⟨W.heap.size, 7, none⟩) (World.block_lt_of_cell? w2 _ r7)).trans r7
   have HB3 := Lib.hid (HB2.out.trans (hb3.mono HB2.out.size))
   have HQ3 := Lib.hid hq3
   clear hb3 hq3 r0 r1 r2 r3 r4 r5 r6 r7
   cases b
   ·go_wp2
    go_ret
    exact ⟨rfl, HB3.out⟩
   ·have hno := HQ3.out rfl
    obtain ⟨ts, hR, hz⟩ := HT.out
    have HR := Lib.hid (row_plain hR hno (gs_plain W d))
    have HZ : Hid (sizes ts ≤ 900000) := Lib.hid (by omega)
    have HZ9 := Lib.hid hz
    clear HQ3 HT hno hR hz
    go_wp2_with fail
    refine (f7_any W d nm a1 n1 m1 b0 b1 b2 b3 b4 b5 ts _ HR.out HZ.out HB3.out).mono ?_
    rintro e w4 ⟨v1, rfl, hb4, hs1⟩
    have t0 := (hb4.cell (p := ⟨W.heap.size, 0, none⟩) (World.block_lt_of_cell? w3 _ s0)).trans s0
    have t1 := (hb4.cell (p := ⟨W.heap.size, 1, none⟩) (World.block_lt_of_cell? w3 _ s1)).trans s1
    have t2 := (hb4.cell (p := ⟨W.heap.size, 2, none⟩) (World.block_lt_of_cell? w3 _ s2)).trans s2
    have t3 := (hb4.cell (p := ⟨W.heap.size, 3, none⟩) (World.block_lt_of_cell? w3 _ s3)).trans s3
    have t4 := (hb4.cell (p := ⟨W.heap.size, 4, none⟩) (World.block_lt_of_cell? w3 _ s4)).trans s4
    have t5 := (hb4.cell (p := ⟨W.heap.size, 5, none⟩) (World.block_lt_of_cell? w3 _ s5)).trans s5
    have t6 := (hb4.cell (p := ⟨W.heap.size, 6, none⟩) (World.block_lt_of_cell? w3 _ s6)).trans s6
    have t7 := (hb4.cell (p := ⟨W.heap.size, 7, none⟩) (World.block_lt_of_cell? w3 _ s7)).trans s7
    have HB4 := Lib.hid (HB3.out.trans (hb4.mono HB3.out.size))
    have HS1 := Lib.hid hs1
    clear hb4 hs1 s0 s1 s2 s3 s4 s5 s6 s7
    go_wp2_with fail
    refine (f8_any W d nm a1 n1 m1 b0 b1 b2 b3 b4 b5 k ts _ HR.out HZ.out HB4.out).mono ?_
    rintro e w5 ⟨v2, rfl, hb5, hs2⟩
    have HB5 := Lib.hid (HB4.out.trans (hb5.mono HB4.out.size))
    have HS1' := Lib.hid (HS1.out.below hb5)
    have HS2 := Lib.hid hs2
    clear hb5 hs2 t0 t1 t2 t3 t4 t5 t6 t7 HS1
    have hlaw := law k (.mk none ts)
    have hall := visit_all (-1) (by decide) (.mk none ts) ⟨[], 0, 0⟩
    have hln : (visit (-1) (.mk none ts) ⟨[], 0, 0⟩).names.length ≤ 1000000 := by
     have := names_le (.mk none ts)
     rw [hall]
     have := HZ.out
     simp only [List.nil_append, Tr.size] at *
     omega
    dsimp only at hlaw
    clear hall
    generalize visit (-1) (.mk none ts) ⟨[], 0, 0⟩ = sa at *
    generalize visit (k : Int) (.mk none ts) ⟨[], 0, 0⟩ = sb at *
    obtain ⟨la, na, ea⟩ := sa
    obtain ⟨lb, nb, eb⟩ := sb
    dsimp only at *
    obtain ⟨h1, h2, h3, h4⟩ := hlaw
    obtain ⟨x1, y1, rfl⟩ := HS1'.out.len
    obtain ⟨x2, y2, rfl⟩ := HS2.out.len
    have i1 : (lb.length : Int) ≤ (la.length : Int) := by omega
    have i2 : (nb : Int) ≤ (na : Int) := by omega
    have i3 : (eb : Int) = if (nb : Int) < (k : Int) then (nb : Int) else (k : Int) := by split <;> omega
    rw [i3]
    have HLn := Lib.hid hln
    have HB6 := Lib.hid h4
    clear h1 h2 h3 h4 hln i3
    by_cases hkn : k < na
    ·have i4 : (k : Int) < (na : Int) := by omega
     by_cases hnk : nb < k
     ·have i5 : (nb : Int) < (k : Int) := by omega
      rw [if_pos i5]
      go_wp2
      go_ret
      exact ⟨rfl, HB5.out⟩
     ·have i5 : ¬ (nb : Int) < (k : Int) := by omega
      rw [if_neg i5]
      go_wp2
      go_ret
      exact ⟨rfl, HB5.out⟩
    ·have i4 : ¬ (k : Int) < (na : Int) := by omega
     have hsame : lb = la := by rcases HB6.out with h | h; exact absurd h hkn; exact h
     subst hsame
     by_cases hnk : nb < k
     ·have i5 : (nb : Int) < (k : Int) := by omega
      rw [if_pos i5]
      go_wp2_with fail
      refine (f9_same _ _ lb HLn.out _ HS2.out HS1'.out).mono ?_
      rintro e w6 ⟨rfl, rfl⟩
      go_wp2
      go_ret
      exact ⟨rfl, HB5.out⟩
     ·have i5 : ¬ (nb : Int) < (k : Int) := by omega
      rw [if_neg i5]
      go_wp2_with fail
      refine (f9_same _ _ lb HLn.out _ HS2.out HS1'.out).mono ?_
      rintro e w6 ⟨rfl, rfl⟩
      go_wp2
      go_ret
      exact ⟨rfl, HB5.out⟩
end Go.Proofs.YtabeokminikfdaaGreat
namespace Go.Proofs.YtabeokminikfdaaGreat
open Go.ChangeShapes Go.WideShapes Go.ChangeAt Go.RowKit
theorem spot_none {w : World} {a : Addr} {v : Value} (h : w.cell? a = some v) : a.spot = none := by
 simpa using World.cell?_spot h
theorem slat_open {H : Type} {enc : TypeId × Value → H} {W : World} {fuel t e k : Nat} {cs : List Value} {x : DataW H × List MemPlace} (ht : Tryz.prog.underlying t = some (.slice e)) (hk : Tryz.prog.cellsOf e = k) (hk0 : 0 < k) (Pr : Array Value → Prop)
  (hel : ∀ (m : Nat) (cs' : Array Value) (y : DataW H × List MemPlace), m < fuel → cs'.size = k → DataW.trod enc Tryz.prog W 0 (fun _ => true) true m e cs'.toList = some y → Pr cs') (h : DataW.trod enc Tryz.prog W 0 (fun _ => true) true fuel t cs = some x) :
  ∃ a n c, cs = [.slice a n c] ∧ n ≤ maxLen ∧ SlAt W k (.slice a n c) n (fun _ cs' => Pr cs') := by
 rcases DataW.trod_slice ht h with ⟨hcs, _⟩ | ⟨a, len, cap, elems, rest, m, hf, hcs, _, _, hl, hm, hlen, hall, _⟩
 ·exact ⟨none, 0, 0, hcs, by decide, none, 0, rfl, Nat.le_refl _, by decide, fun h0 => absurd h0 (Nat.lt_irrefl 0)⟩
 ·refine ⟨some a, len, cap, hcs, Nat.le_trans hl hm, some a, cap, rfl, hl, hm, fun h0 => ?_⟩
  have key : ∀ i, i < len → ∃ cs' y, W.cells? 0 (a.add (i * k)) k = some cs' ∧ DataW.trod enc Tryz.prog W 0 (fun _ => true) true m e cs' = some y := fun i hi => by
   have h1 := hall i hi
   rw [hk, List.getElem?_eq_getElem (by omega)] at h1
   obtain ⟨cs', h2, h3⟩ := Option.bind_eq_some_iff.1 h1
   exact ⟨cs', _, h2, h3⟩
  have hsp : a.spot = none := by
   obtain ⟨cs', _, h1, _⟩ := key 0 h0
   obtain ⟨_, h3, h4⟩ := World.cells?_some h1
   have h5 := h4 0 hk0
   have h6 : cs'[0]? = some (cs'[0]'(by omega)) := List.getElem?_eq_getElem (by omega)
   rw [h6] at h5
   have ha : (a.add (0 * k)).add 0 = a := by simp [Addr.add]
   rw [ha] at h5
   exact spot_none h5
  obtain ⟨g, off, sp⟩ := a
  simp only at hsp
  subst hsp
  have hadd : ∀ i j, ((⟨g, off, none⟩ : Addr).add i).add j = ⟨g, off + i + j, none⟩ := fun i j => by
   rw [Go.Deep.add_add]; unfold Addr.add; split <;> simp_all; omega
  refine ⟨g, off, rfl, fun i hin => ?_⟩
  obtain ⟨cs', y, h1, h2⟩ := key i hin
  obtain ⟨_, h3, h4⟩ := World.cells?_some h1
  refine ⟨cs'.toArray, by simpa using h3, fun j hj => ?_, hel m cs'.toArray y (by omega) (by simpa using h3) (by simpa using h2)⟩
  have := h4 j hj
  rw [hadd] at this
  simpa using this
theorem i64_wf {n : Int} (h : (Lit.int .i64 n).wf = true) : I64 n := by
 have hmin : IntKind.i64.min = -9223372036854775808 := rfl
 have hmax : IntKind.i64.max = 9223372036854775807 := rfl
 simp only [Lit.wf, Bool.and_eq_true, decide_eq_true_eq] at h
 unfold I64
 omega
theorem u8_wf {n : Int} (h : (Lit.int .u8 n).wf = true) : 0 ≤ n ∧ n < 256 := by
 have hmin : IntKind.u8.min = 0 := rfl
 have hmax : IntKind.u8.max = 255 := rfl
 simp only [Lit.wf, Bool.and_eq_true, decide_eq_true_eq] at h
 omega
theorem u64_wf {n : Int} (h : (Lit.int .u64 n).wf = true) : 0 ≤ n ∧ n < 18446744073709551616 := by
 have hmin : IntKind.u64.min = 0 := rfl
 have hmax : IntKind.u64.max = 18446744073709551615 := rfl
 simp only [Lit.wf, Bool.and_eq_true, decide_eq_true_eq] at h
 omega
theorem open_i64 {H : Type} {enc : TypeId × Value → H} {W : World} {fuel : Nat} {v : Value} {x : DataW H × List MemPlace} (h : DataW.trod enc Tryz.prog W 0 (fun _ => true) true fuel 3 [v] = some x) : ∃ n, v = .int .i64 n ∧ I64 n := by
 obtain ⟨n, hv, _, hw⟩ := DataW.trod_int Tryz.underlying3 h
 simp only [List.cons.injEq, and_true] at hv
 exact ⟨n, hv, i64_wf hw⟩
theorem open_str {H : Type} {enc : TypeId × Value → H} {W : World} {fuel : Nat} {v : Value} {x : DataW H × List MemPlace} (h : DataW.trod enc Tryz.prog W 0 (fun _ => true) true fuel 9 [v] = some x) : ∃ s, v = .string s ∧ s.size ≤ maxLen := by
 obtain ⟨s, hv, _, hw⟩ := DataW.trod_string Tryz.underlying9 h
 simp only [List.cons.injEq, and_true] at hv
 exact ⟨s, hv, hw⟩
theorem open_bl {H : Type} {enc : TypeId × Value → H} {W : World} {fuel : Nat} {v : Value} {x : DataW H × List MemPlace} (h : DataW.trod enc Tryz.prog W 0 (fun _ => true) true fuel 4 [v] = some x) : ∃ b, v = .bool b := by
 obtain ⟨s, hv, _⟩ := DataW.trod_bool Tryz.underlying4 h
 simp only [List.cons.injEq, and_true] at hv
 exact ⟨s, hv⟩
theorem field_at {H : Type} {enc : TypeId × Value → H} {W : World} {n : Nat} {t o k : Nat} {cs : List Value} {xs : List (DataW H × List MemPlace)} {i : Nat} (hk : Tryz.prog.cellsOf t = k) (hi : i < xs.length) (h : DataW.trod enc Tryz.prog W 0 (fun _ => true) true n t (List.take (Tryz.prog.cellsOf t) (List.drop o cs)) = xs[i]?) : ∃ y, DataW.trod enc Tryz.prog W 0 (fun _ => true) true n t (List.take k (List.drop o cs)) = some y := by
 rw [hk, List.getElem?_eq_getElem hi] at h
 exact ⟨_, h⟩
theorem bytes_open {H : Type} {enc : TypeId × Value → H} {W : World} {fuel : Nat} {v : Value} {x : DataW H × List MemPlace} (h : DataW.trod enc Tryz.prog W 0 (fun _ => true) true fuel 158 [v] = some x) : (∃ a n c, v = .slice a n c) ∧ ∃ n, Bytes W v n := by
 obtain ⟨a, n, c, hcs, _, hs⟩ := slat_open (k := 1) (Tryz.underlying158) (by kernel_rfl) (by decide) (fun cs => ∃ b : Nat, b < 256 ∧ cs = #[.int .u8 b]) (fun m cs' y _ hsz hy => by
  obtain ⟨l⟩ := cs'
  match l, hsz with
  | [u], _ =>
   obtain ⟨b, hv, _, hw⟩ := DataW.trod_int (k := .u8) (by kernel_rfl) hy
   simp only [List.cons.injEq, and_true] at hv
   obtain ⟨w1, w2⟩ := u8_wf hw
   exact ⟨b.toNat, by omega, by rw [hv]; congr 3; omega⟩) h
 simp only [List.cons.injEq, and_true] at hcs
 exact ⟨⟨a, n, c, hcs⟩, n, by rw [hcs]; exact hs⟩
theorem any_slice {H : Type} {enc : TypeId × Value → H} {W : World} {fuel : Nat} {v : Value} {x : DataW H × List MemPlace} (h : DataW.trod enc Tryz.prog W 0 (fun _ => true) true fuel 160 [v] = some x) : ∃ a n c, v = .slice a n c ∧ n ≤ maxLen := by
 rcases DataW.trod_slice Tryz.underlying160 h with ⟨hcs, _⟩ | ⟨a, len, cap, elems, rest, m, hf, hcs, _, _, hl, hm, _⟩
 ·simp only [List.cons.injEq, and_true] at hcs
  exact ⟨_, _, _, hcs, by decide⟩
 ·simp only [List.cons.injEq, and_true] at hcs
  exact ⟨_, _, _, hcs, Nat.le_trans hl hm⟩
theorem params_open {H : Type} {enc : TypeId × Value → H} {W : World} {d fuel : Nat} (hE : ∀ (m : Nat) (cs : List Value) (y : DataW H × List MemPlace), m ≤ d → DataW.trod enc Tryz.prog W 0 (fun _ => true) true m 164 cs = some y → ∃ e : EV, cs = e.cells.toList ∧ SE d W e) (hd : fuel ≤ d) {v : Value} {x : DataW H × List MemPlace} (h : DataW.trod enc Tryz.prog W 0 (fun _ => true) true fuel 41 [v] = some x) :
  ∃ n, SlAt W 3 v n fun _ cs => ∃ p : PV, cs = p.cells ∧ I64 p.kind ∧ p.name.size ≤ maxLen ∧ ∃ m, SlAt W 11 p.dflt m fun _ cs' => ∃ k : EV, cs' = k.cells ∧ SE d W k := by
 obtain ⟨a, n, c, hcs, _, hs⟩ := slat_open (k := 3) (Tryz.underlying41) (by kernel_rfl) (by decide) (fun cs => ∃ p : PV, cs = p.cells ∧ I64 p.kind ∧ p.name.size ≤ maxLen ∧ ∃ m, SlAt W 11 p.dflt m fun _ cs' => ∃ k : EV, cs' = k.cells ∧ SE d W k) (fun m cs' y hm hsz hy => by
  obtain ⟨l⟩ := cs'
  match l, hsz with
  | [k0, k1, k2], _ =>
   obtain ⟨xs, q, hq, _, _, hxl, hf⟩ := DataW.trod_struct Tryz.underlying167 hy
   obtain ⟨yf0, f0⟩ := field_at (o := 0) (i := 0) (show Tryz.prog.cellsOf 3 = 1 by kernel_rfl) (by rw [hxl]; decide) (hf 0 _ rfl)
   replace f0 : DataW.trod enc Tryz.prog W 0 (fun _ => true) true q 3 [k0] = some yf0 := f0
   obtain ⟨yf1, f1⟩ := field_at (o := 1) (i := 1) (show Tryz.prog.cellsOf 9 = 1 by kernel_rfl) (by rw [hxl]; decide) (hf 1 _ rfl)
   replace f1 : DataW.trod enc Tryz.prog W 0 (fun _ => true) true q 9 [k1] = some yf1 := f1
   obtain ⟨yf2, f2⟩ := field_at (o := 2) (i := 2) (show Tryz.prog.cellsOf 40 = 1 by kernel_rfl) (by rw [hxl]; decide) (hf 2 _ rfl)
   replace f2 : DataW.trod enc Tryz.prog W 0 (fun _ => true) true q 40 [k2] = some yf2 := f2
   obtain ⟨n0, rfl, w0⟩ := open_i64 f0
   obtain ⟨s1, rfl, w1⟩ := open_str f1
   obtain ⟨a2, n2, c2, hc2, _, hs2⟩ := slat_open (k := 11) (Tryz.underlying40) (by kernel_rfl) (by decide) (fun cs => ∃ k : EV, cs = k.cells ∧ SE d W k) (fun m' cs' y' hm' _ hy' => by
    obtain ⟨e, he, hse⟩ := hE m' _ _ (by omega) hy'
    exact ⟨e, by rw [← Array.toList_inj, he], hse⟩) f2
   simp only [List.cons.injEq, and_true] at hc2
   subst hc2
   exact ⟨⟨n0, s1, _⟩, rfl, w0, w1, n2, hs2⟩) h
 simp only [List.cons.injEq, and_true] at hcs
 exact ⟨n, by rw [hcs]; exact hs⟩
theorem exprs_open {H : Type} {enc : TypeId × Value → H} {W : World} {d fuel : Nat} (hE : ∀ (m : Nat) (cs : List Value) (y : DataW H × List MemPlace), m ≤ d → DataW.trod enc Tryz.prog W 0 (fun _ => true) true m 164 cs = some y → ∃ e : EV, cs = e.cells.toList ∧ SE d W e) (hd : fuel ≤ d) {v : Value} {x : DataW H × List MemPlace} (h : DataW.trod enc Tryz.prog W 0 (fun _ => true) true fuel 40 [v] = some x) :
  ∃ n, SlAt W 11 v n fun _ cs => ∃ k : EV, cs = k.cells ∧ SE d W k := by
 obtain ⟨a, n, c, hcs, _, hs⟩ := slat_open (k := 11) (Tryz.underlying40) (by kernel_rfl) (by decide) (fun cs => ∃ k : EV, cs = k.cells ∧ SE d W k) (fun m' cs' y' hm' _ hy' => by
  obtain ⟨e, he, hse⟩ := hE m' _ _ (by omega) hy'
  exact ⟨e, by rw [← Array.toList_inj, he], hse⟩) h
 simp only [List.cons.injEq, and_true] at hcs
 exact ⟨n, by rw [hcs]; exact hs⟩
theorem se_open {H : Type} {enc : TypeId × Value → H} {W : World} : ∀ (d m : Nat) (cs : List Value) (y : DataW H × List MemPlace), m ≤ d → DataW.trod enc Tryz.prog W 0 (fun _ => true) true m 164 cs = some y → ∃ e : EV, cs = e.cells.toList ∧ SE d W e
 | 0, m, cs, y, hm, h => by
  obtain rfl : m = 0 := by omega
  simp [DataW.trod] at h
 | d + 1, m, cs, y, hm, h => by
  have hE := se_open (enc := enc) (W := W) d
  obtain ⟨xs, q, hq, _, hlen, hxl, hf⟩ := DataW.trod_struct Tryz.underlying164 h
  rw [show Tryz.prog.cellsOf 164 = 11 by kernel_rfl] at hlen
  match cs, hlen with
  | [k0, k1, k2, k3, k4, k5, k6, k7, k8, k9, k10], _ =>
   obtain ⟨yf0, f0⟩ := field_at (o := 0) (i := 0) (show Tryz.prog.cellsOf 3 = 1 by kernel_rfl) (by rw [hxl]; decide) (hf 0 _ rfl)
   replace f0 : DataW.trod enc Tryz.prog W 0 (fun _ => true) true q 3 [k0] = some yf0 := f0
   obtain ⟨yf1, f1⟩ := field_at (o := 1) (i := 1) (show Tryz.prog.cellsOf 3 = 1 by kernel_rfl) (by rw [hxl]; decide) (hf 1 _ rfl)
   replace f1 : DataW.trod enc Tryz.prog W 0 (fun _ => true) true q 3 [k1] = some yf1 := f1
   obtain ⟨yf2, f2⟩ := field_at (o := 2) (i := 2) (show Tryz.prog.cellsOf 9 = 1 by kernel_rfl) (by rw [hxl]; decide) (hf 2 _ rfl)
   replace f2 : DataW.trod enc Tryz.prog W 0 (fun _ => true) true q 9 [k2] = some yf2 := f2
   obtain ⟨yf3, f3⟩ := field_at (o := 3) (i := 3) (show Tryz.prog.cellsOf 162 = 6 by kernel_rfl) (by rw [hxl]; decide) (hf 3 _ rfl)
   replace f3 : DataW.trod enc Tryz.prog W 0 (fun _ => true) true q 162 [k3, k4, k5, k6, k7, k8] = some yf3 := f3
   obtain ⟨yf4, f4⟩ := field_at (o := 9) (i := 4) (show Tryz.prog.cellsOf 40 = 1 by kernel_rfl) (by rw [hxl]; decide) (hf 4 _ rfl)
   replace f4 : DataW.trod enc Tryz.prog W 0 (fun _ => true) true q 40 [k9] = some yf4 := f4
   obtain ⟨yf5, f5⟩ := field_at (o := 10) (i := 5) (show Tryz.prog.cellsOf 41 = 1 by kernel_rfl) (by rw [hxl]; decide) (hf 5 _ rfl)
   replace f5 : DataW.trod enc Tryz.prog W 0 (fun _ => true) true q 41 [k10] = some yf5 := f5
   obtain ⟨n0, rfl, w0⟩ := open_i64 f0
   obtain ⟨n1, rfl, w1⟩ := open_i64 f1
   obtain ⟨s2, rfl, w2⟩ := open_str f2
   obtain ⟨n9, h9⟩ := exprs_open (d := d) hE (by omega) f4
   obtain ⟨n10, h10⟩ := params_open (d := d) hE (by omega) f5
   obtain ⟨zs, r, hr, _, _, hzl, hg⟩ := DataW.trod_struct Tryz.underlying162 f3
   obtain ⟨yg0, g0⟩ := field_at (o := 0) (i := 0) (show Tryz.prog.cellsOf 3 = 1 by kernel_rfl) (by rw [hzl]; decide) (hg 0 _ rfl)
   replace g0 : DataW.trod enc Tryz.prog W 0 (fun _ => true) true r 3 [k3] = some yg0 := g0
   obtain ⟨yg1, g1⟩ := field_at (o := 1) (i := 1) (show Tryz.prog.cellsOf 4 = 1 by kernel_rfl) (by rw [hzl]; decide) (hg 1 _ rfl)
   replace g1 : DataW.trod enc Tryz.prog W 0 (fun _ => true) true r 4 [k4] = some yg1 := g1
   obtain ⟨yg2, g2⟩ := field_at (o := 2) (i := 2) (show Tryz.prog.cellsOf 158 = 1 by kernel_rfl) (by rw [hzl]; decide) (hg 2 _ rfl)
   replace g2 : DataW.trod enc Tryz.prog W 0 (fun _ => true) true r 158 [k5] = some yg2 := g2
   obtain ⟨yg3, g3⟩ := field_at (o := 3) (i := 3) (show Tryz.prog.cellsOf 159 = 1 by kernel_rfl) (by rw [hzl]; decide) (hg 3 _ rfl)
   replace g3 : DataW.trod enc Tryz.prog W 0 (fun _ => true) true r 159 [k6] = some yg3 := g3
   obtain ⟨yg4, g4⟩ := field_at (o := 4) (i := 4) (show Tryz.prog.cellsOf 9 = 1 by kernel_rfl) (by rw [hzl]; decide) (hg 4 _ rfl)
   replace g4 : DataW.trod enc Tryz.prog W 0 (fun _ => true) true r 9 [k7] = some yg4 := g4
   obtain ⟨yg5, g5⟩ := field_at (o := 5) (i := 5) (show Tryz.prog.cellsOf 160 = 1 by kernel_rfl) (by rw [hzl]; decide) (hg 5 _ rfl)
   replace g5 : DataW.trod enc Tryz.prog W 0 (fun _ => true) true r 160 [k8] = some yg5 := g5
   obtain ⟨n3, rfl, w3⟩ := open_i64 g0
   obtain ⟨b4, rfl⟩ := open_bl g1
   obtain ⟨-, h5⟩ := bytes_open g2
   obtain ⟨n6, hv6, _, w6⟩ := DataW.trod_int (k := .u64) (by kernel_rfl) g3
   simp only [List.cons.injEq, and_true] at hv6
   obtain ⟨s7, rfl, w7⟩ := open_str g4
   obtain ⟨u1, u2⟩ := u64_wf w6
   refine ⟨⟨n0, n1, s2, n3, b4, k5, n6.toNat, s7, k8, k9, k10⟩, ?_, w0, w1, w2, w3, by show n6.toNat < _; omega, w7, h5, any_slice g5, ⟨n9, h9⟩, ⟨n10, h10⟩⟩
   rw [hv6]
   simp only [EV.cells, List.cons.injEq, Value.int.injEq, and_true, true_and]
   omega
theorem strs_open {H : Type} {enc : TypeId × Value → H} {W : World} {fuel : Nat} {v : Value} {x : DataW H × List MemPlace} (h : DataW.trod enc Tryz.prog W 0 (fun _ => true) true fuel 30 [v] = some x) : ∃ l, Strs W v l ∧ l.length ≤ maxLen := by
 obtain ⟨a, n, c, hcs, hnm, hs⟩ := slat_open (k := 1) (Tryz.underlying30) (by kernel_rfl) (by decide) (fun cs => ∃ s : ByteArray, cs = #[.string s]) (fun m cs' y _ hsz hy => by
  obtain ⟨l⟩ := cs'
  match l, hsz with
  | [u], _ =>
   obtain ⟨s, rfl, _⟩ := open_str hy
   exact ⟨s, rfl⟩) h
 simp only [List.cons.injEq, and_true] at hcs
 subst hcs
 obtain ⟨_, _, hv, hc, _, hrow⟩ := hs
 cases hv
 by_cases h0 : 0 < n
 ·obtain ⟨g, off, rfl, hi⟩ := hrow h0
  have key : ∀ k, k ≤ n → ∃ l : List ByteArray, l.length = k ∧ ∀ i, i < k → W.cell? ⟨g, off + i, none⟩ = some (.string (l.getD i ByteArray.empty)) := by
   intro k
   induction k with
   | zero => exact fun _ => ⟨[], rfl, fun i hi => absurd hi (Nat.not_lt_zero i)⟩
   | succ k ih =>
    intro hk
    obtain ⟨l, hl, hll⟩ := ih (by omega)
    obtain ⟨cs, _, hcc, s, rfl⟩ := hi k (by omega)
    refine ⟨l ++ [s], by simp [hl], fun i hi => ?_⟩
    by_cases hik : i < k
    ·rw [List.getD_eq_getElem?_getD, List.getElem?_append_left (by omega), ← List.getD_eq_getElem?_getD]
     exact hll i hik
    ·obtain rfl : i = k := by omega
     have := hcc 0 (by decide)
     rw [List.getD_eq_getElem?_getD, List.getElem?_append_right (by omega)]
     simpa [hl] using this
  obtain ⟨l, hl, hll⟩ := key n (Nat.le_refl _)
  subst hl
  exact ⟨l, .inr ⟨h0, g, off, c, rfl, hc, hll⟩, hnm⟩
 ·obtain rfl : n = 0 := by omega
  cases a with
  | none =>
   rcases DataW.trod_slice Tryz.underlying30 h with ⟨hcs, _⟩ | ⟨a, len, cap, elems, rest, m, hf, hcs, _⟩
   ·simp only [List.cons.injEq, and_true] at hcs
    exact ⟨[], .inl ⟨rfl, .inl hcs⟩, Nat.zero_le _⟩
   ·simp at hcs
  | some a => exact ⟨[], .inl ⟨rfl, .inr ⟨a, c, rfl⟩⟩, Nat.zero_le _⟩
theorem ss_open {H : Type} {enc : TypeId × Value → H} {W : World} : ∀ (d m : Nat) (cs : List Value) (y : DataW H × List MemPlace), m ≤ d → DataW.trod enc Tryz.prog W 0 (fun _ => true) true m 43 cs = some y → ∃ s : SV, cs = s.cells.toList ∧ SS d W s
 | 0, m, cs, y, hm, h => by
  obtain rfl : m = 0 := by omega
  simp [DataW.trod] at h
 | d + 1, m, cs, y, hm, h => by
  have hE := se_open (enc := enc) (W := W) d
  have hS := ss_open (enc := enc) (W := W) d
  obtain ⟨xs, q, hq, _, hlen, hxl, hf⟩ := DataW.trod_struct Tryz.underlying43 h
  rw [show Tryz.prog.cellsOf 43 = 8 by kernel_rfl] at hlen
  match cs, hlen with
  | [k0, k1, k2, k3, k4, k5, k6, k7], _ =>
   obtain ⟨yf0, f0⟩ := field_at (o := 0) (i := 0) (show Tryz.prog.cellsOf 3 = 1 by kernel_rfl) (by rw [hxl]; decide) (hf 0 _ rfl)
   replace f0 : DataW.trod enc Tryz.prog W 0 (fun _ => true) true q 3 [k0] = some yf0 := f0
   obtain ⟨yf1, f1⟩ := field_at (o := 1) (i := 1) (show Tryz.prog.cellsOf 3 = 1 by kernel_rfl) (by rw [hxl]; decide) (hf 1 _ rfl)
   replace f1 : DataW.trod enc Tryz.prog W 0 (fun _ => true) true q 3 [k1] = some yf1 := f1
   obtain ⟨yf2, f2⟩ := field_at (o := 2) (i := 2) (show Tryz.prog.cellsOf 9 = 1 by kernel_rfl) (by rw [hxl]; decide) (hf 2 _ rfl)
   replace f2 : DataW.trod enc Tryz.prog W 0 (fun _ => true) true q 9 [k2] = some yf2 := f2
   obtain ⟨yf3, f3⟩ := field_at (o := 3) (i := 3) (show Tryz.prog.cellsOf 30 = 1 by kernel_rfl) (by rw [hxl]; decide) (hf 3 _ rfl)
   replace f3 : DataW.trod enc Tryz.prog W 0 (fun _ => true) true q 30 [k3] = some yf3 := f3
   obtain ⟨yf4, f4⟩ := field_at (o := 4) (i := 4) (show Tryz.prog.cellsOf 40 = 1 by kernel_rfl) (by rw [hxl]; decide) (hf 4 _ rfl)
   replace f4 : DataW.trod enc Tryz.prog W 0 (fun _ => true) true q 40 [k4] = some yf4 := f4
   obtain ⟨yf5, f5⟩ := field_at (o := 5) (i := 5) (show Tryz.prog.cellsOf 41 = 1 by kernel_rfl) (by rw [hxl]; decide) (hf 5 _ rfl)
   replace f5 : DataW.trod enc Tryz.prog W 0 (fun _ => true) true q 41 [k5] = some yf5 := f5
   obtain ⟨yf6, f6⟩ := field_at (o := 6) (i := 6) (show Tryz.prog.cellsOf 22 = 1 by kernel_rfl) (by rw [hxl]; decide) (hf 6 _ rfl)
   replace f6 : DataW.trod enc Tryz.prog W 0 (fun _ => true) true q 22 [k6] = some yf6 := f6
   obtain ⟨yf7, f7⟩ := field_at (o := 7) (i := 7) (show Tryz.prog.cellsOf 22 = 1 by kernel_rfl) (by rw [hxl]; decide) (hf 7 _ rfl)
   replace f7 : DataW.trod enc Tryz.prog W 0 (fun _ => true) true q 22 [k7] = some yf7 := f7
   obtain ⟨n0, rfl, w0⟩ := open_i64 f0
   obtain ⟨n1, rfl, w1⟩ := open_i64 f1
   obtain ⟨s2, rfl, w2⟩ := open_str f2
   have rows : ∀ {v : Value} {x : DataW H × List MemPlace}, DataW.trod enc Tryz.prog W 0 (fun _ => true) true q 22 [v] = some x → ∃ n, SlAt W 8 v n fun _ cs => ∃ k : SV, cs = k.cells ∧ SS d W k := fun {v} {x} hx => by
    obtain ⟨a, n, c, hcs, _, hs⟩ := slat_open (k := 8) (Tryz.underlying22) (by kernel_rfl) (by decide) (fun cs => ∃ k : SV, cs = k.cells ∧ SS d W k) (fun m' cs' y' hm' _ hy' => by
     obtain ⟨e, he, hse⟩ := hS m' _ _ (by omega) hy'
     exact ⟨e, by rw [← Array.toList_inj, he], hse⟩) hx
    simp only [List.cons.injEq, and_true] at hcs
    exact ⟨n, by rw [hcs]; exact hs⟩
   exact ⟨⟨n0, n1, s2, k3, k4, k5, k6, k7⟩, rfl, w0, w1, w2, strs_open f3, exprs_open (d := d) hE (by omega) f4, params_open (d := d) hE (by omega) f5, rows f6, rows f7⟩
theorem stmts_open {H : Type} {enc : TypeId × Value → H} {W : World} {fuel : Nat} {v : Value} {x : DataW H × List MemPlace} (h : DataW.trod enc Tryz.prog W 0 (fun _ => true) true fuel 22 [v] = some x) : ∃ a n c, v = .slice a n c ∧ n ≤ maxLen ∧ SSs fuel W (.slice a n c) n := by
 obtain ⟨a, n, c, hcs, hn, hs⟩ := slat_open (k := 8) (Tryz.underlying22) (by kernel_rfl) (by decide) (fun cs => ∃ k : SV, cs = k.cells ∧ SS fuel W k) (fun m' cs' y' hm' _ hy' => by
  obtain ⟨e, he, hse⟩ := ss_open fuel m' _ _ (by omega) hy'
  exact ⟨e, by rw [← Array.toList_inj, he], hse⟩) h
 simp only [List.cons.injEq, and_true] at hcs
 exact ⟨a, n, c, hcs, hn, hs⟩
theorem file_open {H : Type} {enc : TypeId × Value → H} {W : World} {fuel : Nat} {cs : List Value} {x : DataW H × List MemPlace} (h : DataW.trod enc Tryz.prog W 0 (fun _ => true) true fuel 26 cs = some x) : ∃ (d : Nat) (nm : ByteArray) (a1 : Option Addr) (n1 m1 : Nat) (b0 b1 b2 b3 b4 b5 : Bool), cs = [.string nm, .slice a1 n1 m1, .bool b0, .bool b1, .bool b2, .bool b3, .bool b4, .bool b5] ∧ nm.size ≤ maxLen ∧ n1 ≤ maxLen ∧ SSs d W (.slice a1 n1 m1) n1 := by
 obtain ⟨xs, q, hq, _, hlen, hxl, hf⟩ := DataW.trod_struct Tryz.underlying26 h
 rw [show Tryz.prog.cellsOf 26 = 8 by kernel_rfl] at hlen
 match cs, hlen with
 | [k0, k1, k2, k3, k4, k5, k6, k7], _ =>
  obtain ⟨yf0, f0⟩ := field_at (o := 0) (i := 0) (show Tryz.prog.cellsOf 9 = 1 by kernel_rfl) (by rw [hxl]; decide) (hf 0 _ rfl)
  replace f0 : DataW.trod enc Tryz.prog W 0 (fun _ => true) true q 9 [k0] = some yf0 := f0
  obtain ⟨yf1, f1⟩ := field_at (o := 1) (i := 1) (show Tryz.prog.cellsOf 22 = 1 by kernel_rfl) (by rw [hxl]; decide) (hf 1 _ rfl)
  replace f1 : DataW.trod enc Tryz.prog W 0 (fun _ => true) true q 22 [k1] = some yf1 := f1
  obtain ⟨yf2, f2⟩ := field_at (o := 2) (i := 2) (show Tryz.prog.cellsOf 24 = 6 by kernel_rfl) (by rw [hxl]; decide) (hf 2 _ rfl)
  replace f2 : DataW.trod enc Tryz.prog W 0 (fun _ => true) true q 24 [k2, k3, k4, k5, k6, k7] = some yf2 := f2
  obtain ⟨nm, rfl, w0⟩ := open_str f0
  obtain ⟨a1, n1, m1, rfl, w1, hs⟩ := stmts_open f1
  obtain ⟨zs, r, hr, _, _, hzl, hg⟩ := DataW.trod_struct Tryz.underlying24 f2
  obtain ⟨yg0, g0⟩ := field_at (o := 0) (i := 0) (show Tryz.prog.cellsOf 4 = 1 by kernel_rfl) (by rw [hzl]; decide) (hg 0 _ rfl)
  replace g0 : DataW.trod enc Tryz.prog W 0 (fun _ => true) true r 4 [k2] = some yg0 := g0
  obtain ⟨yg1, g1⟩ := field_at (o := 1) (i := 1) (show Tryz.prog.cellsOf 4 = 1 by kernel_rfl) (by rw [hzl]; decide) (hg 1 _ rfl)
  replace g1 : DataW.trod enc Tryz.prog W 0 (fun _ => true) true r 4 [k3] = some yg1 := g1
  obtain ⟨yg2, g2⟩ := field_at (o := 2) (i := 2) (show Tryz.prog.cellsOf 4 = 1 by kernel_rfl) (by rw [hzl]; decide) (hg 2 _ rfl)
  replace g2 : DataW.trod enc Tryz.prog W 0 (fun _ => true) true r 4 [k4] = some yg2 := g2
  obtain ⟨yg3, g3⟩ := field_at (o := 3) (i := 3) (show Tryz.prog.cellsOf 4 = 1 by kernel_rfl) (by rw [hzl]; decide) (hg 3 _ rfl)
  replace g3 : DataW.trod enc Tryz.prog W 0 (fun _ => true) true r 4 [k5] = some yg3 := g3
  obtain ⟨yg4, g4⟩ := field_at (o := 4) (i := 4) (show Tryz.prog.cellsOf 4 = 1 by kernel_rfl) (by rw [hzl]; decide) (hg 4 _ rfl)
  replace g4 : DataW.trod enc Tryz.prog W 0 (fun _ => true) true r 4 [k6] = some yg4 := g4
  obtain ⟨yg5, g5⟩ := field_at (o := 5) (i := 5) (show Tryz.prog.cellsOf 4 = 1 by kernel_rfl) (by rw [hzl]; decide) (hg 5 _ rfl)
  replace g5 : DataW.trod enc Tryz.prog W 0 (fun _ => true) true r 4 [k7] = some yg5 := g5
  obtain ⟨b0, rfl⟩ := open_bl g0
  obtain ⟨b1, rfl⟩ := open_bl g1
  obtain ⟨b2, rfl⟩ := open_bl g2
  obtain ⟨b3, rfl⟩ := open_bl g3
  obtain ⟨b4, rfl⟩ := open_bl g4
  obtain ⟨b5, rfl⟩ := open_bl g5
  exact ⟨q, nm, a1, n1, m1, b0, b1, b2, b3, b4, b5, rfl, w0, w1, hs⟩
end Go.Proofs.YtabeokminikfdaaGreat
