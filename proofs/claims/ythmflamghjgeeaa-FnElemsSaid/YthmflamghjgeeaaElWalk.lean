/- Walks for FnElems: a string's bytes, as strings. -/
import Derived.Test.YthmflamghjgeeaaProg
import Derived.WalkKit
import Derived.WalkSpells
import Derived.WalkLawsBesides
import Derived.Deep.QuietTactic
import Derived.BigQuiet
import Derived.Lib.Hide
import Derived.Lib.SmallJoins
import Derived.Deep.DeepCutAuto
namespace Go.Proofs.Ythmflamghjgeeaa.El
open Go.RowKit

theorem info54 : (Try.prog.info? 54).map (fun i => (i.zero, i.size, i.bytes)) = some (some .nilIface, 1, 16) := by kernel_rfl
theorem info9 : (Try.prog.info? 9).map (fun i => (i.zero, i.size, i.bytes)) = some (some (.string ByteArray.empty), 1, 16) := by kernel_rfl
theorem ext_trans {a b c : World} (h1 : Below a.heap.size a b) (h2 : Below b.heap.size b c) : Below a.heap.size a c := h1.trans (h2.mono h1.size)

/-- The i-th byte of a text, as a text. -/
def at1 (s : ByteArray) (i : Nat) : ByteArray := s.extract i (i + 1)

set_option maxRecDepth 100000 in
theorem f56_any (s : ByteArray) (b : Bool) (w : World) : Calls Try.prog 56 #[.agg #[.string s, .bool b]] w fun e w' => e = .returned (.int .i64 s.size) ∧ w.alloc (.cells #[.string s, .bool b] 104) = w' := by
  go_enter Try.func56, Try.ntmps56
  go_wp2
  go_ret
  exact ⟨rfl, rfl⟩

set_option maxRecDepth 100000 in
theorem f57_any (s : ByteArray) (i : Nat) (hi : i < s.size) (hs : s.size ≤ 2147483647) (w : World) :
    Calls Try.prog 57 #[.agg #[.string s, .bool false], .int .i64 i] w fun e w' => e = .returned (.iface 51 (.string (at1 s i))) ∧ w.alloc (.cells #[.string s, .bool false] 104) = w' := by
  go_enter Try.func57, Try.ntmps57
  go_wp2
  go_ret
  exact ⟨rfl, rfl⟩

def elemsOf (s : ByteArray) (k : Nat) : List Value := (List.range k).map fun i => .iface 51 (.string (at1 s i))
theorem elemsOf_succ (s : ByteArray) (k : Nat) : elemsOf s (k + 1) = elemsOf s k ++ [.iface 51 (.string (at1 s k))] := by simp [elemsOf, List.range_succ]

/-- What ZzElems leaves. -/
def ElemsPost (s : ByteArray) (w : World) (e : Ending) (w' : World) : Prop :=
  ∃ v, e = .returned v ∧ w'.ownsRow w.heap.size 54 1 v s.size (elemsOf s s.size) ∧ Below w.heap.size w w'

/-- What an append to a slice of the call's own does to the relation of a loop. -/
theorem rel_app {wr w0 w1 : World} {B e k : Nat} {v v' : Value} {xs ys : List Value} {o1 o2 : Obj} {n : Nat} (hown : wr.ownsRow B e 1 v k xs) (hb : Below B w0 wr) (hsz : B ≤ wr.heap.size)
    (hown' : w1.ownsRow B e 1 v' n ys) (hgrow : ((wr.alloc o1).alloc o2).grownBy w1 v.ownBlock) : w1.ownsRow B e 1 v' n ys ∧ Below B w0 w1 :=
  ⟨hown', ((hb.alloc hsz o1).alloc (by simp; omega) o2).grown hgrow (by simp; omega) fun k' hk => (hown.lt k' hk).1⟩

set_option maxRecDepth 100000 in
set_option maxHeartbeats 1000000 in
theorem f35_any (s : ByteArray) (hs : s.size ≤ 2147483647) (w : World) : Calls Try.prog 35 #[.bool false, .string s] w (ElemsPost s w) := by
  obtain ⟨i0, hi, hz0, hz1, hz2⟩ := info_parts info54
  go_enter Try.func35, Try.ntmps35
  go_wp2_with (go_at_call 56; refine (f56_any s false _).mono ?_; rintro e w' ⟨rfl, rfl⟩)
  go_loopw [6, 7, 13] (fun v _ i wr => ∃ k : Nat, i = .int .i64 k ∧ k ≤ s.size ∧ wr.ownsRow (w.heap.size + 1) 54 1 v k (elemsOf s k) ∧ Below (w.heap.size + 1) (w.alloc (.cells #[.string s, .bool false] 104)) wr) (fun _ _ i _ => s.size - (intOf i).toNat)
  case atStart => exact ⟨0, rfl, Nat.zero_le _, World.ownsRow_nil _ _ _ _, (Below.refl _ _).alloc (by simp) _⟩
  case round =>
    obtain ⟨k, rfl, hk, hown, hb⟩ := hrel
    have hc0 : wr.cell? ⟨w.heap.size, 0, none⟩ = some (.string s) := by rw [hb.cell (by simp)]; simp [go_sem]
    have hc1 : wr.cell? ⟨w.heap.size, 1, none⟩ = some (.bool false) := by rw [hb.cell (by simp)]; simp [go_sem]
    have hsz : w.heap.size + 1 ≤ wr.heap.size := by have := hb.size; simpa using this
    by_cases hlt : k < s.size
    · go_wp2_with (first
        | (go_at_call 57; refine (f57_any s k hlt hs _).mono ?_; rintro e w' ⟨rfl, rfl⟩)
        | (at_builtin; refine wpList_append_own _ rfl (.tmp 16) (.tmp 20) 75 rfl (w.heap.size + 1) 54 i0 .nilIface 1 16 Try.underlying75 hi hz0 hz1 hz2 rfl (by decide) _ k _ rfl ((hown.alloc _).alloc _) ⟨wr.heap.size + 1, 0, none⟩ 1 1 [.iface 51 (.string (at1 s k))] rfl rfl ?c1 ?c2 ?c3 ?c4 ?c5 ?_))
      case c1 =>
        intro j u hj
        match j, hj with
        | 0, hj => simp at hj; subst hj; simp [Addr.add, go_sem]
      case c2 => intro u hu; simp at hu; subst hu; rfl
      case c3 => unfold maxLen; omega
      case c4 => omega
      case c5 => simp; omega
      intro v' w1 hown' hgrow _
      have R := rel_app hown hb hsz hown' hgrow
      clear hown' hgrow hown
      go_wp2
      go_roundw
      case rel => exact ⟨k + 1, by go_num, by omega, by rw [elemsOf_succ]; exact R.1, R.2⟩
      case measure => simp [intOf]; omega
    · obtain rfl : k = s.size := by omega
      go_wp2
      go_ret
      exact ⟨_, rfl, Joins.ownsRow_le hown (by omega), ((Below.refl _ _).alloc (Nat.le_refl _) _).trans (hb.mono (by omega))⟩
theorem ta_76_101 (v : Value) (w : World) : (Instr.typeAssert (Value.iface 76 v) 54 101 true).run Try.prog w = .ok (.tuple #[.pointer none, .bool false]) w := by kernel_rfl
theorem ta_76_76 (v : Value) (w : World) : (Instr.typeAssert (Value.iface 76 v) 54 76 true).run Try.prog w = .ok (.tuple #[v, .bool true]) w := by kernel_rfl
theorem ta_51_51 (v : Value) (w : World) : (Instr.typeAssert (Value.iface 51 v) 54 51 true).run Try.prog w = .ok (.tuple #[v, .bool true]) w := by kernel_rfl

def textsOf (s : ByteArray) (k : Nat) : List Value := (List.range k).map fun i => .string (at1 s i)
theorem textsOf_succ (s : ByteArray) (k : Nat) : textsOf s (k + 1) = textsOf s k ++ [.string (at1 s k)] := by simp [textsOf, List.range_succ]

def TextsPost (s : ByteArray) (n : Nat) (w : World) (e : Ending) (w' : World) : Prop :=
  ∃ v, e = .returned (.tuple #[v, .bool true]) ∧ w'.ownsRow w.heap.size 9 1 v n (textsOf s n) ∧ Below w.heap.size w w'

theorem rel_app1 {wr w0 w1 : World} {B e k : Nat} {v v' : Value} {xs ys : List Value} {o1 : Obj} {n : Nat} (hown : wr.ownsRow B e 1 v k xs) (hb : Below B w0 wr) (hsz : B ≤ wr.heap.size)
    (hown' : w1.ownsRow B e 1 v' n ys) (hgrow : (wr.alloc o1).grownBy w1 v.ownBlock) : w1.ownsRow B e 1 v' n ys ∧ Below B w0 w1 :=
  ⟨hown', (hb.alloc hsz o1).grown hgrow (by simp; omega) fun k' hk => (hown.lt k' hk).1⟩

set_option maxRecDepth 100000 in
set_option maxHeartbeats 1000000 in
theorem f34_any (s : ByteArray) (g n cap : Nat) (hn : n ≤ 2147483647) (w : World) (hg : g < w.heap.size) (hc : ∀ i, i < n → w.cell? ⟨g, i, none⟩ = some (.iface 51 (.string (at1 s i)))) :
    Calls Try.prog 34 #[.iface 76 (.slice (some ⟨g, 0, none⟩) n cap), .nilIface] w (TextsPost s n w) := by
  obtain ⟨i0, hi, hz0, hz1, hz2⟩ := info_parts info9
  have t1 := ta_76_101
  have t2 := ta_76_76
  have t3 := ta_51_51
  have HC := Lib.hid hc
  clear hc
  go_enter Try.func34, Try.ntmps34
  go_wp2_with fail
  go_loopw [4, 12, 13, 14, 43] (fun v _ _ _ i wr => ∃ k : Nat, i = .int .i64 k ∧ k ≤ n ∧ wr.ownsRow w.heap.size 9 1 v k (textsOf s k) ∧ Below w.heap.size w wr) (fun _ _ _ _ i _ => n - (intOf i).toNat)
  case atStart => exact ⟨0, rfl, Nat.zero_le _, World.ownsRow_nil _ _ _ _, Below.refl _ _⟩
  case round =>
    obtain ⟨k, rfl, hk, hown, hb⟩ := hrel
    have hsz := hb.size
    by_cases hlt : k < n
    · have hc0 : wr.cell? ⟨g, k, none⟩ = some (.iface 51 (.string (at1 s k))) := by rw [hb.cell (p := ⟨g, k, none⟩) hg]; exact HC.out k hlt
      go_wp2_with (at_builtin; refine wpList_append_own _ rfl (.tmp 52) (.tmp 54) 40 rfl w.heap.size 9 i0 (.string ByteArray.empty) 1 16 Try.underlying40 hi hz0 hz1 hz2 rfl (by decide) _ k _ rfl (hown.alloc _) ⟨wr.heap.size, 0, none⟩ 1 1 [.string (at1 s k)] rfl rfl ?c1 ?c2 ?c3 ?c4 ?c5 ?_)
      case c1 =>
        intro j u hj
        match j, hj with
        | 0, hj => simp at hj; subst hj; simp [Addr.add, go_sem]
      case c2 => intro u hu; simp at hu; subst hu; rfl
      case c3 => unfold maxLen; omega
      case c4 => omega
      case c5 => simp; omega
      intro v' w1 hown' hgrow _
      have R := rel_app1 hown hb hsz hown' hgrow
      clear hown' hgrow hown
      go_wp2
      go_roundw
      case rel => exact ⟨k + 1, by go_num, by omega, by rw [textsOf_succ]; exact R.1, R.2⟩
      case measure => simp [intOf]; omega
    · obtain rfl : k = n := by omega
      go_wp2
      go_ret2
      exact ⟨_, rfl, hown, hb⟩

def ElPost (s : ByteArray) (w : World) (e : Ending) (w' : World) : Prop :=
  ∃ g cap, e = .returned (.slice (some ⟨g, 0, none⟩) s.size cap) ∧ w.heap.size ≤ g ∧ (∀ i, i < s.size → w'.cell? ⟨g, i, none⟩ = some (.string (at1 s i))) ∧ Below w.heap.size w w'

set_option maxRecDepth 100000 in
set_option maxHeartbeats 1000000 in
theorem f16_any (s : ByteArray) (h0 : 0 < s.size) (hs : s.size ≤ 2147483647) (w : World) : Calls Try.prog 16 #[.string s] w (ElPost s w) := by
  go_enter Try.func16, Try.ntmps16
  go_wp2_with fail
  refine (f35_any s hs _).mono ?_
  rintro e w1 ⟨v, rfl, hown, hb⟩
  obtain ⟨g, cap, rfl⟩ := Joins.ownsRow_form hown h0
  have hlt := hown.lt g rfl
  have hc : ∀ i, i < s.size → w1.cell? ⟨g, i, none⟩ = some (.iface 51 (.string (at1 s i))) := by
    intro i hi
    have := hown.cellAt i (by omega)
    simpa [elemsOf, hi] using this
  obtain ⟨hg1, hg2⟩ := hlt
  have HC := Lib.hid hc
  have HO := Lib.hid hown
  clear hc hown
  go_wp2_with fail
  refine (f34_any s g s.size cap hs w1 hg2 HC.out).mono ?_
  rintro e w2 ⟨v, rfl, hown2, hb2⟩
  obtain ⟨g', cap', rfl⟩ := Joins.ownsRow_form hown2 h0
  have HO2 := Lib.hid hown2
  have HL := Lib.hid (hown2.lt g' rfl)
  clear hown2
  go_wp2_with fail
  go_ret
  refine ⟨g', cap', rfl, by have := hb.size; have := HL.out; omega, ?_, ext_trans hb hb2⟩
  intro i hi
  have := HO2.out.cellAt i (by omega)
  simpa [textsOf, hi] using this

set_option maxRecDepth 100000 in
set_option maxHeartbeats 1000000 in
theorem f6_core (s : ByteArray) (hs : s.size ≤ 2147483647) (w : World) : Calls Try.prog 6 #[.string s] w fun e w' => e = .returned (.bool true) ∧ Below w.heap.size w w' := by
  have gs : ¬ (2147483647 < (s.size : Int)) := by omega
  go_enter Try.func6, Try.ntmps6
  go_wp2_with fail
  case inr h =>
    have e1 : (s ++ ({ data := #[97] } : ByteArray)).size = s.size + 1 := by rw [ByteArray.size_append]; rfl
    have e2 : (s ++ ({ data := #[97] } : ByteArray)).size ≤ 201 ∧ 0 < (s ++ ({ data := #[97] } : ByteArray)).size := by omega
    clear e1
    generalize s ++ ({ data := #[97] } : ByteArray) = T at *
    obtain ⟨k1, k2⟩ := e2
    refine (f16_any T k2 (by omega) _).mono ?_
    rintro e w1 ⟨g, cap, rfl, hg, hc, hb⟩
    have HC := Lib.hid hc
    clear hc
    go_wp2_with fail
    go_loopw [5, 6, 20] (fun _ _ i wr => ∃ k : Nat, i = .int .i64 k ∧ k ≤ T.size ∧ wr = w1) (fun _ _ i _ => T.size - (intOf i).toNat)
    case atStart => exact ⟨0, rfl, Nat.zero_le _, rfl⟩
    case round =>
      obtain ⟨k, rfl, hk, rfl⟩ := hrel
      by_cases hlt : k < T.size
      · have hc0 := HC.out k hlt
        unfold at1 at hc0
        go_wp2
        go_roundw
        case rel => exact ⟨k + 1, by go_num, by omega, trivial⟩
        case measure => simp [intOf]; omega
      · obtain rfl : k = T.size := by omega
        go_wp2
        go_ret
        exact ⟨rfl, hb⟩
  case inl h =>
    have e1 : (s.extract 0 200 ++ ({ data := #[97] } : ByteArray)).size = 201 := by
      rw [ByteArray.size_append, ByteArray.size_extract]; show min 200 s.size - 0 + 1 = 201; omega
    have e2 : (s.extract 0 200 ++ ({ data := #[97] } : ByteArray)).size ≤ 201 ∧ 0 < (s.extract 0 200 ++ ({ data := #[97] } : ByteArray)).size := by omega
    clear e1
    generalize s.extract 0 200 ++ ({ data := #[97] } : ByteArray) = T at *
    obtain ⟨k1, k2⟩ := e2
    refine (f16_any T k2 (by omega) _).mono ?_
    rintro e w1 ⟨g, cap, rfl, hg, hc, hb⟩
    have HC := Lib.hid hc
    clear hc
    go_wp2_with fail
    go_loopw [5, 6, 20] (fun _ _ i wr => ∃ k : Nat, i = .int .i64 k ∧ k ≤ T.size ∧ wr = w1) (fun _ _ i _ => T.size - (intOf i).toNat)
    case atStart => exact ⟨0, rfl, Nat.zero_le _, rfl⟩
    case round =>
      obtain ⟨k, rfl, hk, rfl⟩ := hrel
      by_cases hlt : k < T.size
      · have hc0 := HC.out k hlt
        unfold at1 at hc0
        go_wp2
        go_roundw
        case rel => exact ⟨k + 1, by go_num, by omega, trivial⟩
        case measure => simp [intOf]; omega
      · obtain rfl : k = T.size := by omega
        go_wp2
        go_ret
        exact ⟨rfl, hb⟩

theorem f6_any (s : ByteArray) (w : World) : Calls Try.prog 6 #[.string s] w fun e w' => e = .returned (.bool true) ∧ Below w.heap.size w w' := by
  by_cases hs : s.size ≤ 2147483647
  · exact f6_core s hs w
  · have hs' : (2147483647 : Int) < s.size := by omega
    go_enter Try.func6, Try.ntmps6
    go_wp2
    go_ret
    exact ⟨rfl, Below.refl _ _⟩
end Go.Proofs.Ythmflamghjgeeaa.El
