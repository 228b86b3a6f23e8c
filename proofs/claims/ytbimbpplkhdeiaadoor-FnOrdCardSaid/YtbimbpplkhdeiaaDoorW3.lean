/- Walks of the reference: the escapes by a number. -/
import Derived.Test.YtbimbpplkhdeiaaDoorW2
import Derived.Test.YtbimbpplkhdeiaaDoorShelf
import Derived.Laws.BitsAllLaws
namespace Go.Proofs.YtbimbpplkhdeiaaDoor
open Go.RowKit Go.Lib

theorem made_rune {w w' : World} {v' : Value} {r : Int} (h : w'.ownsRow w.heap.size 5 1 v' (0 + (runeCells r).length) ([] ++ runeCells r)) (hg : ∃ o, (w.alloc o).grownBy w' (Value.slice none 0 0).ownBlock) : OB w.heap.size w w' v' (encodeRune r) := by
  obtain ⟨o, hg⟩ := hg
  refine ⟨?_, ((Below.refl _ _).alloc (Nat.le_refl _) o).grown hg (by simp) (by intro k hk; cases hk), ?_⟩
  · rw [byteCells_encodeRune, ← runeCells_length]; simpa using h
  · have := hg.size; simp at this; omega
theorem OB.above {W0 w w' : World} {v : Value} {l : List UInt8} (h : OB w.heap.size w w' v l) (hb : Below W0.heap.size W0 w) : OB W0.heap.size W0 w' v l := by
  refine ⟨⟨h.1.1, ?_⟩, hb.trans (h.2.1.mono hb.size), Nat.le_trans hb.size h.2.2⟩
  rcases h.1.2 with h1 | ⟨g, cap, cur, hv, hB, r⟩
  · exact .inl h1
  · exact .inr ⟨g, cap, cur, hv, Nat.le_trans hb.size hB, r⟩
set_option maxRecDepth 100000 in
theorem f17_rune (n s : Nat) (hv : Lib.validRune (n : Int) = true) (w : World) : Calls Tryd.prog 17 #[.int .i64 n, .bool false, .bool false, .int .i64 s] w (MakesB (encodeRune (n : Int)) s w) := by
  rw [validRune_iff] at hv
  have h1 : decide ((n : Int) > 1114111) = false := decide_eq_false (by omega)
  have h3 : IntKind.i32.wrap (n : Int) = n := by simp [IntKind.wrap, IntKind.bits, IntKind.signed]; omega
  have HA := Lib.hid (fun w => Tryd.utf8_AppendRune_plain w.heap.size (.slice none 0 0) 0 [] (n : Int) (by omega) (by omega) w ⟨rfl, .inl ⟨rfl, rfl⟩⟩ (by omega) (Nat.le_refl _))
  rcases hv with hv | hv
  · have h2 : decide ((n : Int) ≥ 55296) = false := decide_eq_false (by omega)
    clear hv
    go_enter Tryd.func17, Tryd.ntmps17
    go_wp2_with fail
    refine (HA.out _).mono ?_
    rintro e w1 ⟨v1, rfl, ho, hg⟩
    have HO := Lib.hid (made_rune ho hg)
    clear ho hg
    go_wp2
    go_ret2
    exact ⟨_, rfl, HO.out⟩
  · have h2 : decide ((n : Int) ≥ 55296) = true := decide_eq_true (by omega)
    have h4 : decide ((n : Int) < 57344) = false := decide_eq_false (by omega)
    clear hv
    go_enter Tryd.func17, Tryd.ntmps17
    go_wp2_with fail
    refine (HA.out _).mono ?_
    rintro e w1 ⟨v1, rfl, ho, hg⟩
    have HO := Lib.hid (made_rune ho hg)
    clear ho hg
    go_wp2
    go_ret2
    exact ⟨_, rfl, HO.out⟩

theorem hex_or : ∀ d < 16, ((hexB d).toNat ||| 32) = (hexB d).toNat := by decide
theorem hex_or' (d : Nat) (hd : d < 16) : bits BinOp.or IntKind.u8 ((hexB d).toNat : Int) 32 = ((hexB d).toNat : Int) := by
  rw [show (32 : Int) = ((32 : Nat) : Int) from rfl, u8_or_nat _ _ (UInt8.toNat_lt _) (by decide), hex_or d hd]
theorem hexBs_get (v : Nat) : ∀ (g j : Nat) (t : List UInt8), j < g → (hexBs v g ++ t).getD j 0 = hexB (v / 16 ^ (g - 1 - j) % 16)
  | g + 1, 0, t, _ => by simp [hexBs]
  | g + 1, j + 1, t, h => by
    have e : g + 1 - 1 - (j + 1) = g - 1 - j := by omega
    rw [e, ← hexBs_get v g j t (by omega)]
    simp [hexBs]
theorem top_step (v g j : Nat) (hj : j < g) : v / 16 ^ (g - j) * 16 + v / 16 ^ (g - 1 - j) % 16 = v / 16 ^ (g - (j + 1)) := by
  have e : g - (j + 1) = g - 1 - j := by omega
  have e2 : g - j = (g - 1 - j) + 1 := by omega
  rw [e, e2, Nat.pow_succ, ← Nat.div_div_eq_div_mul]
  omega
theorem digit_string (d : Nat) (w : World) : (convert 30 9 (.slice (some ⟨w.heap.size, 0, none⟩) 1 1)).run Tryd.prog (w.alloc (.cells #[.int .u8 ((hexB d).toNat : Int)] 5)) = .ok (.string ⟨#[hexB d]⟩) (w.alloc (.cells #[.int .u8 ((hexB d).toNat : Int)] 5)) :=
  ob_string (OB.one w (hexB d) _ rfl)

set_option maxRecDepth 100000 in
set_option maxHeartbeats 1000000 in
theorem f10_two (s : ByteArray) (v : Nat) (hv : v < 128) (t : List UInt8) (hs : s.data.toList = 92 :: 120 :: (hexBs v 2 ++ t)) (hlen : s.size ≤ 9223372036854775807) (w : World) :
    Calls Tryd.prog 10 #[.string s, .bool false] w (MakesB ([v.toUInt8]) 4 w) := by
  have hsz : 4 ≤ s.size := by
    rw [size_list, hs]; simp only [List.length_cons, List.length_append, hexBs_len]; omega
  have HN : Hid (s[1] = 120) := at_list s 1 (by omega) _ hs
  have HD : Hid (∀ j (h : j < 2) (hx : 2 + j < s.size), s[2 + j] = hexB (v / 16 ^ (2 - 1 - j) % 16)) := fun j h hx => by
    rw [at_list s (2 + j) hx _ hs, ← hexBs_get v 2 j t h, show 2 + j = j + 1 + 1 by omega]; rfl
  have HV := Lib.hid hv
  clear hs hv
  go_enter Tryd.func10, Tryd.ntmps10
  go_wp2
  go_loopw [6] (fun i wr => ∃ j : Nat, j ≤ 10 ∧ i = .int .i64 j ∧ ∃ q, wr = w.drewN q) (fun i _ => 10 - (RowKit.intOf i).toNat)
  case atStart => exact ⟨0, Nat.zero_le _, rfl, 0, rfl⟩
  case round =>
    obtain ⟨j, hj, rfl, q, rfl⟩ := hrel
    have i1 : (1 : Int) < (s.size : Int) := by omega
    have i2 : 1 < s.size := by omega
    by_cases hj10 : j < 10
    · have i3 : (j : Int) < 10 := by omega
      have ht : ((s[1].toNat : Int) == ((⟨#[110, 114, 116, 97, 98, 102, 118, 34, 39, 92]⟩ : ByteArray)[j].toNat : Int)) = false := by
        rw [byte_eq, names_lit j hj10, HN.out]
        have : ∀ j < 10, ((120 : UInt8) == names.getD j 0) = false := by decide
        exact this j hj10
      go_wp2
      go_quiet (fail)
      go_wp2
      go_roundw
      case rel => exact ⟨j + 1, by omega, by go_num, _, rfl⟩
      case measure => simp [RowKit.intOf]; omega
    · obtain rfl : j = 10 := by omega
      have b1 : ((s[1].toNat : Int) == 120) = true := by rw [HN.out]; rfl
      have b2 : ((s[1].toNat : Int) == 117) = false := by rw [HN.out]; rfl
      have b3 : ((s[1].toNat : Int) == 85) = false := by rw [HN.out]; rfl
      have hsz' : ¬ ((s.size : Int) < 4) := by omega
      clear hj hj10
      go_wp2
      go_loopw [8, 9] (fun n i wr => ∃ j : Nat, j ≤ 2 ∧ i = .int .i64 (2 + j : Nat) ∧ n = .int .i64 (v / 16 ^ (2 - j) : Nat) ∧ Hid (Below w.heap.size w wr)) (fun _ i _ => 4 - (RowKit.intOf i).toNat)
      case atStart => exact ⟨0, Nat.zero_le _, rfl, by rw [Nat.div_eq_of_lt (by have := HV.out; omega)]; rfl, below_drewN (Below.refl _ _) _⟩
      case round =>
        obtain ⟨j, hj, rfl, rfl, HB⟩ := hrel
        by_cases hjg : j < 2
        · have HT := Lib.hid (top_step v 2 j hjg)
          have hx : 2 + j < s.size := by omega
          have HE := Lib.hid (HD.out j hjg hx)
          have hd : v / 16 ^ (2 - 1 - j) % 16 < 16 := Nat.mod_lt _ (by decide)
          have hm : v / 16 ^ (2 - j) < 4294967296 := Nat.lt_of_le_of_lt (Nat.div_le_self _ _) (by have := HV.out; omega)
          generalize v / 16 ^ (2 - 1 - j) % 16 = d at *
          generalize v / 16 ^ (2 - j) = m at *
          have ho : bits BinOp.or IntKind.u8 (s[2 + j].toNat : Int) 32 = ((hexB d).toNat : Int) := by rw [HE.out]; exact hex_or' d hd
          have hstr := fun w => digit_string d w
          have HP := Lib.hid (fun w => f16_hex d hd w)
          go_wp2_with ((go_at_call 16; refine (HP.out _).mono ?_; rintro e w' ⟨rfl, rfl⟩))
          go_roundw
          case rel => exact ⟨j + 1, by omega, by go_num, by rw [← HT.out]; go_num, HB.out.alloc (by have := HB.out.size; omega) _⟩
          case measure => simp [RowKit.intOf]; omega
        · obtain rfl : j = 2 := by omega
          have HC := Lib.hid (fun w => f17_one v 4 HV.out w)
          rw [show v / 16 ^ (2 - 2) = v by simp]
          go_wp2_with ((go_at_call 17; refine (HC.out _).mono ?_; rintro e w' ⟨v1, rfl, ho⟩; have HO := Lib.hid ho; clear ho))
          go_ret2
          exact ⟨_, rfl, HO.out.above HB.out⟩

set_option maxRecDepth 100000 in
set_option maxHeartbeats 1000000 in
theorem f10_four (s : ByteArray) (v : Nat) (hv : v < 65536 ∧ Lib.validRune (v : Int) = true) (t : List UInt8) (hs : s.data.toList = 92 :: 117 :: (hexBs v 4 ++ t)) (hlen : s.size ≤ 9223372036854775807) (w : World) :
    Calls Tryd.prog 10 #[.string s, .bool false] w (MakesB (encodeRune (v : Int)) 6 w) := by
  have hsz : 6 ≤ s.size := by
    rw [size_list, hs]; simp only [List.length_cons, List.length_append, hexBs_len]; omega
  have HN : Hid (s[1] = 117) := at_list s 1 (by omega) _ hs
  have HD : Hid (∀ j (h : j < 4) (hx : 2 + j < s.size), s[2 + j] = hexB (v / 16 ^ (4 - 1 - j) % 16)) := fun j h hx => by
    rw [at_list s (2 + j) hx _ hs, ← hexBs_get v 4 j t h, show 2 + j = j + 1 + 1 by omega]; rfl
  have HV := Lib.hid hv
  clear hs hv
  go_enter Tryd.func10, Tryd.ntmps10
  go_wp2
  go_loopw [6] (fun i wr => ∃ j : Nat, j ≤ 10 ∧ i = .int .i64 j ∧ ∃ q, wr = w.drewN q) (fun i _ => 10 - (RowKit.intOf i).toNat)
  case atStart => exact ⟨0, Nat.zero_le _, rfl, 0, rfl⟩
  case round =>
    obtain ⟨j, hj, rfl, q, rfl⟩ := hrel
    have i1 : (1 : Int) < (s.size : Int) := by omega
    have i2 : 1 < s.size := by omega
    by_cases hj10 : j < 10
    · have i3 : (j : Int) < 10 := by omega
      have ht : ((s[1].toNat : Int) == ((⟨#[110, 114, 116, 97, 98, 102, 118, 34, 39, 92]⟩ : ByteArray)[j].toNat : Int)) = false := by
        rw [byte_eq, names_lit j hj10, HN.out]
        have : ∀ j < 10, ((117 : UInt8) == names.getD j 0) = false := by decide
        exact this j hj10
      go_wp2
      go_quiet (fail)
      go_wp2
      go_roundw
      case rel => exact ⟨j + 1, by omega, by go_num, _, rfl⟩
      case measure => simp [RowKit.intOf]; omega
    · obtain rfl : j = 10 := by omega
      have b1 : ((s[1].toNat : Int) == 120) = false := by rw [HN.out]; rfl
      have b2 : ((s[1].toNat : Int) == 117) = true := by rw [HN.out]; rfl
      have b3 : ((s[1].toNat : Int) == 85) = false := by rw [HN.out]; rfl
      have hsz' : ¬ ((s.size : Int) < 6) := by omega
      clear hj hj10
      go_wp2
      go_loopw [8, 9] (fun n i wr => ∃ j : Nat, j ≤ 4 ∧ i = .int .i64 (2 + j : Nat) ∧ n = .int .i64 (v / 16 ^ (4 - j) : Nat) ∧ Hid (Below w.heap.size w wr)) (fun _ i _ => 6 - (RowKit.intOf i).toNat)
      case atStart => exact ⟨0, Nat.zero_le _, rfl, by rw [Nat.div_eq_of_lt (by have := HV.out; omega)]; rfl, below_drewN (Below.refl _ _) _⟩
      case round =>
        obtain ⟨j, hj, rfl, rfl, HB⟩ := hrel
        by_cases hjg : j < 4
        · have HT := Lib.hid (top_step v 4 j hjg)
          have hx : 2 + j < s.size := by omega
          have HE := Lib.hid (HD.out j hjg hx)
          have hd : v / 16 ^ (4 - 1 - j) % 16 < 16 := Nat.mod_lt _ (by decide)
          have hm : v / 16 ^ (4 - j) < 4294967296 := Nat.lt_of_le_of_lt (Nat.div_le_self _ _) (by have := HV.out; omega)
          generalize v / 16 ^ (4 - 1 - j) % 16 = d at *
          generalize v / 16 ^ (4 - j) = m at *
          have ho : bits BinOp.or IntKind.u8 (s[2 + j].toNat : Int) 32 = ((hexB d).toNat : Int) := by rw [HE.out]; exact hex_or' d hd
          have hstr := fun w => digit_string d w
          have HP := Lib.hid (fun w => f16_hex d hd w)
          go_wp2_with ((go_at_call 16; refine (HP.out _).mono ?_; rintro e w' ⟨rfl, rfl⟩))
          go_roundw
          case rel => exact ⟨j + 1, by omega, by go_num, by rw [← HT.out]; go_num, HB.out.alloc (by have := HB.out.size; omega) _⟩
          case measure => simp [RowKit.intOf]; omega
        · obtain rfl : j = 4 := by omega
          have HC := Lib.hid (fun w => f17_rune v 6 HV.out.2 w)
          rw [show v / 16 ^ (4 - 4) = v by simp]
          go_wp2_with ((go_at_call 17; refine (HC.out _).mono ?_; rintro e w' ⟨v1, rfl, ho⟩; have HO := Lib.hid ho; clear ho))
          go_ret2
          exact ⟨_, rfl, HO.out.above HB.out⟩

set_option maxRecDepth 100000 in
set_option maxHeartbeats 1000000 in
theorem f10_eight (s : ByteArray) (v : Nat) (hv : v ≤ 1114111 ∧ Lib.validRune (v : Int) = true) (t : List UInt8) (hs : s.data.toList = 92 :: 85 :: (hexBs v 8 ++ t)) (hlen : s.size ≤ 9223372036854775807) (w : World) :
    Calls Tryd.prog 10 #[.string s, .bool false] w (MakesB (encodeRune (v : Int)) 10 w) := by
  have hsz : 10 ≤ s.size := by
    rw [size_list, hs]; simp only [List.length_cons, List.length_append, hexBs_len]; omega
  have HN : Hid (s[1] = 85) := at_list s 1 (by omega) _ hs
  have HD : Hid (∀ j (h : j < 8) (hx : 2 + j < s.size), s[2 + j] = hexB (v / 16 ^ (8 - 1 - j) % 16)) := fun j h hx => by
    rw [at_list s (2 + j) hx _ hs, ← hexBs_get v 8 j t h, show 2 + j = j + 1 + 1 by omega]; rfl
  have HV := Lib.hid hv
  clear hs hv
  go_enter Tryd.func10, Tryd.ntmps10
  go_wp2
  go_loopw [6] (fun i wr => ∃ j : Nat, j ≤ 10 ∧ i = .int .i64 j ∧ ∃ q, wr = w.drewN q) (fun i _ => 10 - (RowKit.intOf i).toNat)
  case atStart => exact ⟨0, Nat.zero_le _, rfl, 0, rfl⟩
  case round =>
    obtain ⟨j, hj, rfl, q, rfl⟩ := hrel
    have i1 : (1 : Int) < (s.size : Int) := by omega
    have i2 : 1 < s.size := by omega
    by_cases hj10 : j < 10
    · have i3 : (j : Int) < 10 := by omega
      have ht : ((s[1].toNat : Int) == ((⟨#[110, 114, 116, 97, 98, 102, 118, 34, 39, 92]⟩ : ByteArray)[j].toNat : Int)) = false := by
        rw [byte_eq, names_lit j hj10, HN.out]
        have : ∀ j < 10, ((85 : UInt8) == names.getD j 0) = false := by decide
        exact this j hj10
      go_wp2
      go_quiet (fail)
      go_wp2
      go_roundw
      case rel => exact ⟨j + 1, by omega, by go_num, _, rfl⟩
      case measure => simp [RowKit.intOf]; omega
    · obtain rfl : j = 10 := by omega
      have b1 : ((s[1].toNat : Int) == 120) = false := by rw [HN.out]; rfl
      have b2 : ((s[1].toNat : Int) == 117) = false := by rw [HN.out]; rfl
      have b3 : ((s[1].toNat : Int) == 85) = true := by rw [HN.out]; rfl
      have hsz' : ¬ ((s.size : Int) < 10) := by omega
      clear hj hj10
      go_wp2
      go_loopw [8, 9] (fun n i wr => ∃ j : Nat, j ≤ 8 ∧ i = .int .i64 (2 + j : Nat) ∧ n = .int .i64 (v / 16 ^ (8 - j) : Nat) ∧ Hid (Below w.heap.size w wr)) (fun _ i _ => 10 - (RowKit.intOf i).toNat)
      case atStart => exact ⟨0, Nat.zero_le _, rfl, by rw [Nat.div_eq_of_lt (by have := HV.out; omega)]; rfl, below_drewN (Below.refl _ _) _⟩
      case round =>
        obtain ⟨j, hj, rfl, rfl, HB⟩ := hrel
        by_cases hjg : j < 8
        · have HT := Lib.hid (top_step v 8 j hjg)
          have hx : 2 + j < s.size := by omega
          have HE := Lib.hid (HD.out j hjg hx)
          have hd : v / 16 ^ (8 - 1 - j) % 16 < 16 := Nat.mod_lt _ (by decide)
          have hm : v / 16 ^ (8 - j) < 4294967296 := Nat.lt_of_le_of_lt (Nat.div_le_self _ _) (by have := HV.out; omega)
          generalize v / 16 ^ (8 - 1 - j) % 16 = d at *
          generalize v / 16 ^ (8 - j) = m at *
          have ho : bits BinOp.or IntKind.u8 (s[2 + j].toNat : Int) 32 = ((hexB d).toNat : Int) := by rw [HE.out]; exact hex_or' d hd
          have hstr := fun w => digit_string d w
          have HP := Lib.hid (fun w => f16_hex d hd w)
          go_wp2_with ((go_at_call 16; refine (HP.out _).mono ?_; rintro e w' ⟨rfl, rfl⟩))
          go_roundw
          case rel => exact ⟨j + 1, by omega, by go_num, by rw [← HT.out]; go_num, HB.out.alloc (by have := HB.out.size; omega) _⟩
          case measure => simp [RowKit.intOf]; omega
        · obtain rfl : j = 8 := by omega
          have HC := Lib.hid (fun w => f17_rune v 10 HV.out.2 w)
          rw [show v / 16 ^ (8 - 8) = v by simp]
          go_wp2_with ((go_at_call 17; refine (HC.out _).mono ?_; rintro e w' ⟨v1, rfl, ho⟩; have HO := Lib.hid ho; clear ho))
          go_ret2
          exact ⟨_, rfl, HO.out.above HB.out⟩

theorem f10_any (s : ByteArray) (e p t : List UInt8) (he : Esc e p) (hs : s.data.toList = e ++ t) (hlen : s.size ≤ 9223372036854775807) (w : World) :
    Calls Tryd.prog 10 #[.string s, .bool false] w (MakesB p e.length w) := by
  cases he with
  | named k h => exact f10_named s k h t hs hlen w
  | two v h => exact f10_two s v h t (by simpa using hs) hlen w
  | four v h hv => exact f10_four s v ⟨h, hv⟩ t (by simpa using hs) hlen w
  | eight v h hv => exact f10_eight s v ⟨h, hv⟩ t (by simpa using hs) hlen w
end Go.Proofs.YtbimbpplkhdeiaaDoor
