/- Walks of the package's white space: a predicate of every rune; a text trimmed of it. -/
import Derived.Test.YtgcofpmhojplhaaGreatDoorSn
import Derived.Test.YtgcofpmhojplhaaGreatDoorR3
namespace Go.Proofs.YtgcofpmhojplhaaGreatDoor
open Go.RowKit

def blankN (x : Nat) : Bool := x == 32 || (decide (9 ≤ x) && decide (x ≤ 13))
def spaceP (x : Nat) : Bool := if x < 128 then blankN x else amongL rows x
set_option maxRecDepth 100000 in
theorem f65_low (x : Nat) (h : x < 128) (w : World) : Calls Tryz.prog 65 #[.int .i32 x] w fun e w' => e = .returned (.bool (spaceP x)) ∧ Below w.heap.size w w' := by
  have hv : spaceP x = blankN x := by unfold spaceP; rw [if_pos h]
  have t0 : decide ((x : Int) < 128) = true := decide_eq_true (by omega)
  by_cases h32 : x = 32
  · have HV : Hid (spaceP x = true) := by show _ = _; rw [hv, h32]; rfl
    have t1 : ((x : Int) == 32) = true := by rw [h32]; rfl
    clear hv h32
    go_enter Tryz.func65, Tryz.ntmps65
    go_wp2
    go_ret
    exact ⟨by rw [HV.out]; rfl, Below.refl _ _⟩
  · have t1 : ((x : Int) == 32) = false := int_ne _ _ (by omega)
    by_cases h9 : 9 ≤ x
    · by_cases h13 : x ≤ 13
      · have HV : Hid (spaceP x = true) := by show _ = _; rw [hv]; simp [blankN, h9, h13]
        have t13 : decide ((x : Int) ≤ 13) = true := decide_eq_true (by omega)
        clear hv h32
        go_enter Tryz.func65, Tryz.ntmps65
        go_wp2
        go_ret
        exact ⟨by rw [HV.out]; rfl, Below.refl _ _⟩
      · have HV : Hid (spaceP x = false) := by show _ = _; rw [hv]; simp [blankN, h32]; omega
        have t13 : decide ((x : Int) ≤ 13) = false := decide_eq_false (by omega)
        clear hv h32
        go_enter Tryz.func65, Tryz.ntmps65
        go_wp2
        go_ret
        exact ⟨by rw [HV.out]; rfl, Below.refl _ _⟩
    · have HV : Hid (spaceP x = false) := by show _ = _; rw [hv]; simp [blankN, h32]; omega
      clear hv h32
      go_enter Tryz.func65, Tryz.ntmps65
      go_wp2
      go_ret
      exact ⟨by rw [HV.out]; rfl, Below.refl _ _⟩
set_option maxRecDepth 100000 in
set_option maxHeartbeats 1000000 in
theorem f65_high (x : Nat) (h : 128 ≤ x) (h1 : x ≤ 1114111) (w : World) : Calls Tryz.prog 65 #[.int .i32 x] w fun e w' => e = .returned (.bool (spaceP x)) ∧ Below w.heap.size w w' := by
  have HV : Hid (spaceP x = amongL rows x) := by show _ = _; unfold spaceP; rw [if_neg (by omega)]
  have t0 : decide ((x : Int) < 128) = false := decide_eq_false (by omega)
  have HC : Hid (∀ w1 : World, ∀ o, o = (w.alloc (.cells #[.int .i32 9, .int .i32 13, .int .i32 1, .int .i32 32, .int .i32 133, .int .i32 101, .int .i32 160, .int .i32 5760, .int .i32 5600, .int .i32 8192, .int .i32 8202, .int .i32 1, .int .i32 8232, .int .i32 8233, .int .i32 1, .int .i32 8239, .int .i32 8287, .int .i32 48, .int .i32 12288, .int .i32 12288, .int .i32 1] 143)) → Calls Tryz.prog 89 #[.slice (some ⟨w.heap.size, 0, none⟩) 7 7, .int .i32 x] o fun e w' => e = .returned (.bool (amongL rows x)) ∧ Below w.heap.size w w') := fun _ o ho => by
    subst ho
    refine (f89_space w.heap.size x h h1 _ (by simp) (by simp)).mono fun e w' ⟨a, b⟩ => ⟨a, ?_⟩
    exact ((Below.refl w.heap.size w).alloc (Nat.le_refl _) _).trans (b.mono (by simp))
  clear h h1
  go_enter Tryz.func65, Tryz.ntmps65
  go_wp2_with (go_at_call 89; refine (HC.out w _ rfl).mono ?_; rintro e w2 ⟨rfl, hb⟩; have HB2 := Lib.hid hb; clear hb)
  go_ret
  exact ⟨by rw [HV.out]; rfl, HB2.out⟩
theorem space_pays (w : World) : PredGrows Tryz.prog 65 #[] spaceP w := fun W x hx _ => by
  by_cases h : x < 128
  · exact f65_low x h W
  · exact f65_high x (by omega) hx W
theorem space_enters (args : Array Value) (w : World) : (callFunc 65 args).run Tryz.prog w = .ok (.enter 65 args) w := enters_of Tryz.func65 (by kernel_rfl) rfl args w
/-- A byte of white space. -/
def blankB (b : UInt8) : Bool := blankN b.toNat
theorem tl_congr (p q : UInt8 → Bool) : ∀ l, (∀ b ∈ l, p b = q b) → tl p l = tl q l
  | [], _ => rfl
  | b :: t, h => by
    have hb := h b (by simp)
    have ih := tl_congr p q t fun x hx => h x (by simp [hx])
    simp only [tl, hb, ih]
theorem tr_congr (p q : UInt8 → Bool) : ∀ l, (∀ b ∈ l, p b = q b) → tr p l = tr q l
  | [], _ => rfl
  | b :: t, h => by
    have hb := h b (by simp)
    have ih := tr_congr p q t fun x hx => h x (by simp [hx])
    simp only [tr, hb, ih]
theorem space_blank {l : List UInt8} (h : Asc l) : ∀ b ∈ l, (fun b : UInt8 => spaceP b.toNat) b = blankB b := fun b hb => by
  show spaceP b.toNat = blankB b
  unfold spaceP blankB
  rw [if_pos (h b hb)]
theorem f64_asc (s : ByteArray) (ha : Asc s.data.toList) (w : World) : Calls Tryz.prog 64 #[.string s, .func (.func 65) #[] #[]] w (MakesStr (tl blankB s.data.toList) w) :=
  (Tryz.strings_TrimLeftFunc_grows 65 #[] space_enters spaceP s w (space_pays w)).mono fun _ _ ⟨h1, h2⟩ => ⟨_, (trimLeft_asc spaceP s ha).trans (tl_congr _ _ _ (space_blank ha)), h1, h2⟩
theorem f66_asc (s : ByteArray) (ha : Asc s.data.toList) (hs : s.size ≤ 100000) (w : World) (hT : Lib.Utf8Tabs 1 2 w) : Calls Tryz.prog 66 #[.string s, .func (.func 65) #[] #[]] w (MakesStr (tr blankB s.data.toList) w) :=
  (Tryz.strings_TrimRightFunc_grows 65 #[] space_enters spaceP s w (by omega) hT (space_pays w)).mono fun _ _ ⟨h1, h2⟩ => ⟨_, (trimRight_asc spaceP s ha).trans (tr_congr _ _ _ (space_blank ha)), h1, h2⟩
theorem f87_asc (s : ByteArray) (ha : Asc s.data.toList) (hs : s.size ≤ 100000) (w : World) (hT : Lib.Utf8Tabs 1 2 w) : Calls Tryz.prog 87 #[.string s, .func (.func 65) #[] #[]] w (MakesStr (tr blankB (tl blankB s.data.toList)) w) :=
  (Tryz.strings_TrimFunc_grows 65 #[] space_enters spaceP s w (by omega) hT (space_pays w)).mono fun _ _ ⟨h1, h2⟩ => ⟨_, by
    rw [trim_asc spaceP s ha, tl_congr _ _ _ (space_blank ha)]
    exact tr_congr _ _ _ (space_blank (tl_asc ha _)), h1, h2⟩
set_option maxRecDepth 100000 in
theorem f63_asc (s : ByteArray) (ha : Asc s.data.toList) (hs : s.size ≤ 100000) (w : World) (hT : Lib.Utf8Tabs 1 2 w) : Calls Tryz.prog 63 #[.string s] w (MakesStr (tr blankB (tl blankB s.data.toList)) w) := by
  have HC := Lib.hid (f87_asc s ha hs w hT)
  clear ha hs hT
  go_enter Tryz.func63, Tryz.ntmps63
  go_wp2_with (go_at_call 87; refine HC.out.mono ?_; rintro e w1 ⟨t, ht, rfl, hb⟩; have HT := Lib.hid ht; have HB := Lib.hid hb; clear ht hb)
  go_ret
  exact ⟨t, HT.out, rfl, HB.out⟩
end Go.Proofs.YtgcofpmhojplhaaGreatDoor
