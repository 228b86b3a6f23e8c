import Derived.Test.YtabeokminikfdaaGreatQB1
set_option linter.all false
set_option maxRecDepth 100000
set_option maxHeartbeats 4000000
namespace Go.Proofs.YtabeokminikfdaaGreat
open Go.RowKit
def LitF (vk : Int) (vn : Bool) (n : Nat) (vb : Nat) : Prop := (vk = 2 ∧ vn = false ∧ n ≤ 40) ∨ (vk = 3 ∧ vb < 2047 * 2 ^ 52) ∨ vk = 4 ∨ vk = 5
def LitPost (Q : Prop) (w : World) (e : Ending) (w' : World) : Prop := ∃ b, e = .returned (.bool b) ∧ Below w.heap.size w w' ∧ (b = true → Q)
theorem f29_2 (Q : Prop) (vn : Bool) (vb : Nat) (vt : ByteArray) (a1 a2 : Option Addr) (n1 m1 n2 m2 : Nat) (hc : n1 ≤ 9223372036854775807) (w : World) (h0 : 0 < n1 → ∃ g off, ∃ b : Nat, a1 = some ⟨g, off, none⟩ ∧ w.cell? ⟨g, off, none⟩ = some (.int .u8 b)) (hQ : vn = false → n1 ≤ 40 → Q) :
  Calls Tryz.prog 29 #[.agg #[.int .i64 2, .bool vn, .slice a1 n1 m1, .int .u64 vb, .string vt, .slice a2 n2 m2]] w (LitPost Q w) := by
 have HQ := Lib.hid hQ
 clear hQ
 cases vn
 ·by_cases h1 : n1 ≤ 40
  ·have HQ2 := Lib.hid (HQ.out rfl h1)
   clear HQ
   by_cases h2 : 0 < n1
   ·obtain ⟨g, off, b, rfl, hcell⟩ := h0 h2
    have hlt := World.block_lt_of_cell? w _ hcell
    dsimp only at hlt
    clear h0
    go_enter Tryz.func29, Tryz.ntmps29
    go_wp2
    all_goals go_ret
    all_goals exact ⟨_, rfl, (Below.refl _ _).alloc (Nat.le_refl _) _, fun _ => HQ2.out⟩
   ·obtain rfl : n1 = 0 := by omega
    clear h0
    go_enter Tryz.func29, Tryz.ntmps29
    go_wp2
    all_goals go_ret
    all_goals exact ⟨_, rfl, (Below.refl _ _).alloc (Nat.le_refl _) _, fun _ => HQ2.out⟩
  ·clear h0
   go_enter Tryz.func29, Tryz.ntmps29
   go_wp2
   all_goals go_ret
   all_goals exact ⟨false, rfl, (Below.refl _ _).alloc (Nat.le_refl _) _, fun h => by cases h⟩
 ·clear h0
  go_enter Tryz.func29, Tryz.ntmps29
  go_wp2
  all_goals go_ret
  all_goals exact ⟨false, rfl, (Below.refl _ _).alloc (Nat.le_refl _) _, fun h => by cases h⟩
theorem f29_3 (Q : Prop) (vn : Bool) (vb : Nat) (vt : ByteArray) (a1 a2 : Option Addr) (n1 m1 n2 m2 : Nat) (w : World) (hQ : vb < 2047 * 2 ^ 52 → Q) :
  Calls Tryz.prog 29 #[.agg #[.int .i64 3, .bool vn, .slice a1 n1 m1, .int .u64 vb, .string vt, .slice a2 n2 m2]] w (LitPost Q w) := by
 have HQ := Lib.hid hQ
 clear hQ
 by_cases hb : (vb : Int) / 4503599627370496 < 2047
 ·have HQ2 := Lib.hid (HQ.out (by omega))
  clear HQ
  go_enter Tryz.func29, Tryz.ntmps29
  go_wp2
  all_goals go_ret
  all_goals exact ⟨_, rfl, (Below.refl _ _).alloc (Nat.le_refl _) _, fun _ => HQ2.out⟩
 ·go_enter Tryz.func29, Tryz.ntmps29
  go_wp2
  all_goals go_ret
  all_goals exact ⟨false, rfl, (Below.refl _ _).alloc (Nat.le_refl _) _, fun h => by cases h⟩
theorem f29_45 (vk : Int) (hk : vk = 4 ∨ vk = 5) (Q : Prop) (vn : Bool) (vb : Nat) (vt : ByteArray) (a1 a2 : Option Addr) (n1 m1 n2 m2 : Nat) (w : World) (hQ : Q) :
  Calls Tryz.prog 29 #[.agg #[.int .i64 vk, .bool vn, .slice a1 n1 m1, .int .u64 vb, .string vt, .slice a2 n2 m2]] w (LitPost Q w) := by
 have HQ := Lib.hid hQ
 clear hQ
 rcases hk with rfl | rfl
 all_goals
  go_enter Tryz.func29, Tryz.ntmps29
  go_wp2
  all_goals go_ret
  all_goals exact ⟨_, rfl, (Below.refl _ _).alloc (Nat.le_refl _) _, fun _ => HQ.out⟩
theorem f29_no (vk : Int) (h2 : ¬ vk = 2) (h3 : ¬ vk = 3) (h4 : ¬ vk = 4) (h5 : ¬ vk = 5) (Q : Prop) (vn : Bool) (vb : Nat) (vt : ByteArray) (a1 a2 : Option Addr) (n1 m1 n2 m2 : Nat) (w : World) :
  Calls Tryz.prog 29 #[.agg #[.int .i64 vk, .bool vn, .slice a1 n1 m1, .int .u64 vb, .string vt, .slice a2 n2 m2]] w (LitPost Q w) := by
 have b2 := int_ne _ _ h2
 have b3 := int_ne _ _ h3
 have b4 := int_ne _ _ h4
 have b5 := int_ne _ _ h5
 clear h2 h3 h4 h5
 go_enter Tryz.func29, Tryz.ntmps29
 go_wp2
 go_ret
 exact ⟨false, rfl, (Below.refl _ _).alloc (Nat.le_refl _) _, fun h => by cases h⟩
end Go.Proofs.YtabeokminikfdaaGreat
