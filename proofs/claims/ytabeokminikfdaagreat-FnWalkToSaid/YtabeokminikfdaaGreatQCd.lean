import Derived.Test.YtabeokminikfdaaGreatQCa
set_option linter.all false
set_option maxRecDepth 100000
set_option maxHeartbeats 4000000
namespace Go.Proofs.YtabeokminikfdaaGreat
open Go.RowKit
def YesB (w : World) (e : Ending) (w' : World) : Prop := e = .returned (.bool true) ∧ Below w.heap.size w w'
theorem f44_1 (xo : Int) (xt : ByteArray) (vk : Int) (vn : Bool) (vb : Nat) (vt : ByteArray) (a1 a2 a3 a4 : Option Addr) (n1 n2 n3 n4 m1 m2 m3 m4 : Nat) (w : World) (hl : n3 ≤ 9223372036854775807) : Calls Tryz.prog 44 #[.agg #[.int .i64 1, .int .i64 xo, .string xt, .int .i64 vk, .bool vn, .slice a1 n1 m1, .int .u64 vb, .string vt, .slice a2 n2 m2, .slice a3 0 m3, .slice a4 n4 m4]] w (YesB w) := by
 go_enter Tryz.func44, Tryz.ntmps44
 go_wp2
 go_ret
 exact ⟨rfl, (Below.refl _ _).alloc (Nat.le_refl _) _⟩
theorem f44_2 (xo : Int) (xt : ByteArray) (vk : Int) (vn : Bool) (vb : Nat) (vt : ByteArray) (a1 a2 a3 a4 : Option Addr) (n1 n2 n3 n4 m1 m2 m3 m4 : Nat) (w : World) (hl : n3 ≤ 9223372036854775807) : Calls Tryz.prog 44 #[.agg #[.int .i64 2, .int .i64 xo, .string xt, .int .i64 vk, .bool vn, .slice a1 n1 m1, .int .u64 vb, .string vt, .slice a2 n2 m2, .slice a3 0 m3, .slice a4 n4 m4]] w (YesB w) := by
 go_enter Tryz.func44, Tryz.ntmps44
 go_wp2
 go_ret
 exact ⟨rfl, (Below.refl _ _).alloc (Nat.le_refl _) _⟩
theorem f44_3 (xo : Int) (xt : ByteArray) (vk : Int) (vn : Bool) (vb : Nat) (vt : ByteArray) (a1 a2 a3 a4 : Option Addr) (n1 n2 n3 n4 m1 m2 m3 m4 : Nat) (w : World) (hl : n3 ≤ 9223372036854775807) : Calls Tryz.prog 44 #[.agg #[.int .i64 3, .int .i64 xo, .string xt, .int .i64 vk, .bool vn, .slice a1 n1 m1, .int .u64 vb, .string vt, .slice a2 n2 m2, .slice a3 n3 m3, .slice a4 n4 m4]] w (YesB w) := by
 go_enter Tryz.func44, Tryz.ntmps44
 go_wp2
 go_ret
 exact ⟨rfl, (Below.refl _ _).alloc (Nat.le_refl _) _⟩
theorem f44_4 (xo : Int) (xt : ByteArray) (vk : Int) (vn : Bool) (vb : Nat) (vt : ByteArray) (a1 a2 a3 a4 : Option Addr) (n1 n2 n3 n4 m1 m2 m3 m4 : Nat) (w : World) (hl : n3 ≤ 9223372036854775807) : Calls Tryz.prog 44 #[.agg #[.int .i64 4, .int .i64 xo, .string xt, .int .i64 vk, .bool vn, .slice a1 n1 m1, .int .u64 vb, .string vt, .slice a2 n2 m2, .slice a3 n3 m3, .slice a4 n4 m4]] w (YesB w) := by
 go_enter Tryz.func44, Tryz.ntmps44
 go_wp2
 go_ret
 exact ⟨rfl, (Below.refl _ _).alloc (Nat.le_refl _) _⟩
theorem f44_5 (xo : Int) (xt : ByteArray) (vk : Int) (vn : Bool) (vb : Nat) (vt : ByteArray) (a1 a2 a3 a4 : Option Addr) (n1 n2 n3 n4 m1 m2 m3 m4 : Nat) (w : World) (hn : n3 % 2 = 0) (hl : n3 ≤ 9223372036854775807) : Calls Tryz.prog 44 #[.agg #[.int .i64 5, .int .i64 xo, .string xt, .int .i64 vk, .bool vn, .slice a1 n1 m1, .int .u64 vb, .string vt, .slice a2 n2 m2, .slice a3 n3 m3, .slice a4 n4 m4]] w (YesB w) := by
 have hn2 : ((n3 : Int) % 2 == 0) = true := by simp; omega
 go_enter Tryz.func44, Tryz.ntmps44
 go_wp2
 go_ret
 exact ⟨rfl, (Below.refl _ _).alloc (Nat.le_refl _) _⟩
theorem f44_6 (xo : Int) (xt : ByteArray) (vk : Int) (vn : Bool) (vb : Nat) (vt : ByteArray) (a1 a2 a3 a4 : Option Addr) (n1 n2 n3 n4 m1 m2 m3 m4 : Nat) (w : World) (hl : n3 ≤ 9223372036854775807) : Calls Tryz.prog 44 #[.agg #[.int .i64 6, .int .i64 xo, .string xt, .int .i64 vk, .bool vn, .slice a1 n1 m1, .int .u64 vb, .string vt, .slice a2 n2 m2, .slice a3 1 m3, .slice a4 n4 m4]] w (YesB w) := by
 go_enter Tryz.func44, Tryz.ntmps44
 go_wp2
 go_ret
 exact ⟨rfl, (Below.refl _ _).alloc (Nat.le_refl _) _⟩
theorem f44_7 (xo : Int) (xt : ByteArray) (vk : Int) (vn : Bool) (vb : Nat) (vt : ByteArray) (a1 a2 a3 a4 : Option Addr) (n1 n2 n3 n4 m1 m2 m3 m4 : Nat) (w : World) (hl : n3 ≤ 9223372036854775807) : Calls Tryz.prog 44 #[.agg #[.int .i64 7, .int .i64 xo, .string xt, .int .i64 vk, .bool vn, .slice a1 n1 m1, .int .u64 vb, .string vt, .slice a2 n2 m2, .slice a3 2 m3, .slice a4 n4 m4]] w (YesB w) := by
 go_enter Tryz.func44, Tryz.ntmps44
 go_wp2
 go_ret
 exact ⟨rfl, (Below.refl _ _).alloc (Nat.le_refl _) _⟩
theorem f44_8 (xo : Int) (xt : ByteArray) (vk : Int) (vn : Bool) (vb : Nat) (vt : ByteArray) (a1 a2 a3 a4 : Option Addr) (n1 n2 n3 n4 m1 m2 m3 m4 : Nat) (w : World) (hl : n3 ≤ 9223372036854775807) : Calls Tryz.prog 44 #[.agg #[.int .i64 8, .int .i64 xo, .string xt, .int .i64 vk, .bool vn, .slice a1 n1 m1, .int .u64 vb, .string vt, .slice a2 n2 m2, .slice a3 2 m3, .slice a4 n4 m4]] w (YesB w) := by
 go_enter Tryz.func44, Tryz.ntmps44
 go_wp2
 go_ret
 exact ⟨rfl, (Below.refl _ _).alloc (Nat.le_refl _) _⟩
theorem f44_9 (xo : Int) (xt : ByteArray) (vk : Int) (vn : Bool) (vb : Nat) (vt : ByteArray) (a1 a2 a3 a4 : Option Addr) (n1 n2 n3 n4 m1 m2 m3 m4 : Nat) (w : World) (hl : n3 ≤ 9223372036854775807) : Calls Tryz.prog 44 #[.agg #[.int .i64 9, .int .i64 xo, .string xt, .int .i64 vk, .bool vn, .slice a1 n1 m1, .int .u64 vb, .string vt, .slice a2 n2 m2, .slice a3 2 m3, .slice a4 n4 m4]] w (YesB w) := by
 go_enter Tryz.func44, Tryz.ntmps44
 go_wp2
 go_ret
 exact ⟨rfl, (Below.refl _ _).alloc (Nat.le_refl _) _⟩
theorem f44_10 (xo : Int) (xt : ByteArray) (vk : Int) (vn : Bool) (vb : Nat) (vt : ByteArray) (a1 a2 a3 a4 : Option Addr) (n1 n2 n3 n4 m1 m2 m3 m4 : Nat) (w : World) (hl : n3 ≤ 9223372036854775807) : Calls Tryz.prog 44 #[.agg #[.int .i64 10, .int .i64 xo, .string xt, .int .i64 vk, .bool vn, .slice a1 n1 m1, .int .u64 vb, .string vt, .slice a2 n2 m2, .slice a3 3 m3, .slice a4 n4 m4]] w (YesB w) := by
 go_enter Tryz.func44, Tryz.ntmps44
 go_wp2
 go_ret
 exact ⟨rfl, (Below.refl _ _).alloc (Nat.le_refl _) _⟩
theorem f44_11 (xo : Int) (xt : ByteArray) (vk : Int) (vn : Bool) (vb : Nat) (vt : ByteArray) (a1 a2 a3 a4 : Option Addr) (n1 n2 n3 n4 m1 m2 m3 m4 : Nat) (w : World) (hl : n3 ≤ 9223372036854775807) : Calls Tryz.prog 44 #[.agg #[.int .i64 11, .int .i64 xo, .string xt, .int .i64 vk, .bool vn, .slice a1 n1 m1, .int .u64 vb, .string vt, .slice a2 n2 m2, .slice a3 2 m3, .slice a4 n4 m4]] w (YesB w) := by
 go_enter Tryz.func44, Tryz.ntmps44
 go_wp2
 go_ret
 exact ⟨rfl, (Below.refl _ _).alloc (Nat.le_refl _) _⟩
theorem f44_12 (xo : Int) (xt : ByteArray) (vk : Int) (vn : Bool) (vb : Nat) (vt : ByteArray) (a1 a2 a3 a4 : Option Addr) (n1 n2 n3 n4 m1 m2 m3 m4 : Nat) (w : World) (hl : n3 ≤ 9223372036854775807) : Calls Tryz.prog 44 #[.agg #[.int .i64 12, .int .i64 xo, .string xt, .int .i64 vk, .bool vn, .slice a1 n1 m1, .int .u64 vb, .string vt, .slice a2 n2 m2, .slice a3 4 m3, .slice a4 n4 m4]] w (YesB w) := by
 go_enter Tryz.func44, Tryz.ntmps44
 go_wp2
 go_ret
 exact ⟨rfl, (Below.refl _ _).alloc (Nat.le_refl _) _⟩
theorem f44_13 (xo : Int) (xt : ByteArray) (vk : Int) (vn : Bool) (vb : Nat) (vt : ByteArray) (a1 a2 a3 a4 : Option Addr) (n1 n2 n3 n4 m1 m2 m3 m4 : Nat) (w : World) (hl : n3 ≤ 9223372036854775807) : Calls Tryz.prog 44 #[.agg #[.int .i64 13, .int .i64 xo, .string xt, .int .i64 vk, .bool vn, .slice a1 n1 m1, .int .u64 vb, .string vt, .slice a2 n2 m2, .slice a3 1 m3, .slice a4 n4 m4]] w (YesB w) := by
 go_enter Tryz.func44, Tryz.ntmps44
 go_wp2
 go_ret
 exact ⟨rfl, (Below.refl _ _).alloc (Nat.le_refl _) _⟩
theorem f44_14 (xo : Int) (xt : ByteArray) (vk : Int) (vn : Bool) (vb : Nat) (vt : ByteArray) (a1 a2 a3 a4 : Option Addr) (n1 n2 n3 n4 m1 m2 m3 m4 : Nat) (w : World) (hn : 1 ≤ n3) (hl : n3 ≤ 9223372036854775807) : Calls Tryz.prog 44 #[.agg #[.int .i64 14, .int .i64 xo, .string xt, .int .i64 vk, .bool vn, .slice a1 n1 m1, .int .u64 vb, .string vt, .slice a2 n2 m2, .slice a3 n3 m3, .slice a4 n4 m4]] w (YesB w) := by
 have hn2 : (1 : Int) ≤ (n3 : Int) := by omega
 go_enter Tryz.func44, Tryz.ntmps44
 go_wp2
 go_ret
 exact ⟨rfl, (Below.refl _ _).alloc (Nat.le_refl _) _⟩
theorem f44_18 (xo : Int) (xt : ByteArray) (vk : Int) (vn : Bool) (vb : Nat) (vt : ByteArray) (a1 a2 a3 a4 : Option Addr) (n1 n2 n3 n4 m1 m2 m3 m4 : Nat) (w : World) (hl : n3 ≤ 9223372036854775807) : Calls Tryz.prog 44 #[.agg #[.int .i64 18, .int .i64 xo, .string xt, .int .i64 vk, .bool vn, .slice a1 n1 m1, .int .u64 vb, .string vt, .slice a2 n2 m2, .slice a3 1 m3, .slice a4 n4 m4]] w (YesB w) := by
 go_enter Tryz.func44, Tryz.ntmps44
 go_wp2
 go_ret
 exact ⟨rfl, (Below.refl _ _).alloc (Nat.le_refl _) _⟩
theorem f44_19 (xo : Int) (xt : ByteArray) (vk : Int) (vn : Bool) (vb : Nat) (vt : ByteArray) (a1 a2 a3 a4 : Option Addr) (n1 n2 n3 n4 m1 m2 m3 m4 : Nat) (w : World) (g o : Nat) (hn : 2 ≤ n3) (hc : w.cell? ⟨g, o + 11, none⟩ = some (.int .i64 21)) (hl : n3 ≤ 9223372036854775807) : Calls Tryz.prog 44 #[.agg #[.int .i64 19, .int .i64 xo, .string xt, .int .i64 vk, .bool vn, .slice a1 n1 m1, .int .u64 vb, .string vt, .slice a2 n2 m2, .slice (some ⟨g, o, none⟩) n3 m3, .slice a4 n4 m4]] w (YesB w) := by
 have hn2 : (2 : Int) ≤ (n3 : Int) := by omega
 have hlt := World.block_lt_of_cell? w _ hc
 dsimp only at hlt
 go_enter Tryz.func44, Tryz.ntmps44
 go_wp2
 go_ret
 exact ⟨rfl, (Below.refl _ _).alloc (Nat.le_refl _) _⟩
theorem f44_20 (xo : Int) (xt : ByteArray) (vk : Int) (vn : Bool) (vb : Nat) (vt : ByteArray) (a1 a2 a3 a4 : Option Addr) (n1 n2 n3 n4 m1 m2 m3 m4 : Nat) (w : World) (g o : Nat) (hn : 3 ≤ n3) (hc : w.cell? ⟨g, o + 22, none⟩ = some (.int .i64 21)) (hl : n3 ≤ 9223372036854775807) : Calls Tryz.prog 44 #[.agg #[.int .i64 20, .int .i64 xo, .string xt, .int .i64 vk, .bool vn, .slice a1 n1 m1, .int .u64 vb, .string vt, .slice a2 n2 m2, .slice (some ⟨g, o, none⟩) n3 m3, .slice a4 n4 m4]] w (YesB w) := by
 have hn2 : (3 : Int) ≤ (n3 : Int) := by omega
 have hlt := World.block_lt_of_cell? w _ hc
 dsimp only at hlt
 go_enter Tryz.func44, Tryz.ntmps44
 go_wp2
 go_ret
 exact ⟨rfl, (Below.refl _ _).alloc (Nat.le_refl _) _⟩
theorem f44_23 (xo : Int) (xt : ByteArray) (vk : Int) (vn : Bool) (vb : Nat) (vt : ByteArray) (a1 a2 a3 a4 : Option Addr) (n1 n2 n3 n4 m1 m2 m3 m4 : Nat) (w : World) (hl : n3 ≤ 9223372036854775807) : Calls Tryz.prog 44 #[.agg #[.int .i64 23, .int .i64 xo, .string xt, .int .i64 vk, .bool vn, .slice a1 n1 m1, .int .u64 vb, .string vt, .slice a2 n2 m2, .slice a3 1 m3, .slice a4 n4 m4]] w (YesB w) := by
 go_enter Tryz.func44, Tryz.ntmps44
 go_wp2
 go_ret
 exact ⟨rfl, (Below.refl _ _).alloc (Nat.le_refl _) _⟩
end Go.Proofs.YtabeokminikfdaaGreat
