/- Both sides of strip: the reference's answer and the thin package's. (Printed by mks8.py.) -/
import Derived.Test.YtgcofpmhojplhaaGreatDoorS7
import Derived.Test.YtgcofpmhojplhaaGreatDoorR9
namespace Go.Proofs.YtgcofpmhojplhaaGreatDoor
open Go.RowKit

theorem ws_all : ∀ n, n < 128 → inB ws6 (UInt8.ofNat n) = blankN n := by decide
theorem ws_one (b : UInt8) (h : b.toNat < 128) : inB ws6 b = blankB b := by
  have e := ws_all b.toNat h
  rw [UInt8.ofNat_toNat] at e
  exact e
theorem ws_blank (l : List UInt8) (ha : Asc l) : tl (inB ws6) l = tl blankB l := tl_congr _ _ l fun b hb => ws_one b (ha b hb)
theorem ws_blank2 (l : List UInt8) (ha : Asc l) : tr (inB ws6) l = tr blankB l := tr_congr _ _ l fun b hb => ws_one b (ha b hb)
theorem sub_cell {g : Nat} {w w' : World} {o : Nat} {v : Value} (h : w.cell? ⟨g, o, none⟩ = some v) (hb : Below w.heap.size w w') : w'.cell? ⟨g, o, none⟩ = some v := cell_below h hb
theorem lit_list (l : List UInt8) : (⟨l.toArray⟩ : ByteArray).toList = l := by rw [ByteArray.toList_eq]
theorem im_0_none (s : ByteArray) (ha : Asc s.data.toList) (hs : s.size ≤ 100000) (w : World) (hT : Lib.Utf8Tabs 1 2 w) : Calls Tryz.prog 8 #[.int .i64 0, .string s, .slice none 0 0] w (StripIs (left2 ws6 false false s.data.toList) w) := by
  rw [show left2 ws6 false false s.data.toList = tr blankB (tl blankB s.data.toList) from by show tr _ (tl _ _) = _; rw [ws_blank _ ha, ws_blank2 _ (tl_asc ha _)]]
  exact f8_0none s _ w fun w1 h1 w2 h2 b hb => f35_strip_none s ha hs b w2 hb (tabs_below (tabs_below hT h1) h2) _ (.inl rfl)
theorem rf_0_none (s : ByteArray) (hs : s.size ≤ 100000) (w : World) : Calls Tryz.prog 7 #[.string s, .string ⟨#[115, 116, 114, 105, 112]⟩, .slice none 0 0] w (ValIs3 (left2 ws6 false false s.data.toList) w) :=
  f7_any _ s _ _ w fun w1 h1 => f14_strip _ s (by rw [ByteArray.toList_eq]) _ _ w1 fun w2 h2 => f26_none_ff s _ hs (by rw [ByteArray.toList_eq]; decide) (by rw [ByteArray.toList_eq]; decide) w2
theorem im_0_void (s : ByteArray) (ha : Asc s.data.toList) (hs : s.size ≤ 100000) (w : World) (hT : Lib.Utf8Tabs 1 2 w) (g c : Nat) (hg : w.cell? ⟨g, 0, none⟩ = some (.string ⟨#[]⟩)) : Calls Tryz.prog 8 #[.int .i64 0, .string s, .slice (some ⟨g, 0, none⟩) 1 c] w (StripIs (left2 ws6 false false s.data.toList) w) := by
  rw [show left2 ws6 false false s.data.toList = tr blankB (tl blankB s.data.toList) from by show tr _ (tl _ _) = _; rw [ws_blank _ ha, ws_blank2 _ (tl_asc ha _)]]
  exact f8_0one s _ w _ g c hg fun w1 h1 g1 c1 hg1 w2 h2 b hb => f35_strip_void s ha hs b w2 hb (tabs_below (tabs_below hT h1) h2) g1 c1 (sub_cell hg1 h2)
theorem rf_0_void (s : ByteArray) (hs : s.size ≤ 100000) (w : World) (g c : Nat) (hk : w.cell? ⟨g, 0, none⟩ = some (.int .i64 4)) (hg : w.cell? ⟨g, 4, none⟩ = some (.string ⟨#[]⟩)) : Calls Tryz.prog 7 #[.string s, .string ⟨#[115, 116, 114, 105, 112]⟩, .slice (some ⟨g, 0, none⟩) 1 c] w (ValIs3 (left2 ws6 false false s.data.toList) w) :=
  f7_any _ s _ _ w fun w1 h1 => f14_strip _ s (by rw [ByteArray.toList_eq]) _ _ w1 fun w2 h2 => f26_void_ff s _ hs (by rw [ByteArray.toList_eq]; decide) (by rw [ByteArray.toList_eq]; decide) w2 g c (sub_cell (sub_cell hk h1) h2) (sub_cell (sub_cell hg h1) h2)
theorem im_0_full (s : ByteArray) (ha : Asc s.data.toList) (hs : s.size ≤ 100000) (w : World) (hT : Lib.Utf8Tabs 1 2 w) (cs : ByteArray) (hca : Asc cs.data.toList) (hcs : cs.size ≤ 100000) (hc0 : cs.size ≠ 0) (g c : Nat) (hg : w.cell? ⟨g, 0, none⟩ = some (.string cs)) : Calls Tryz.prog 8 #[.int .i64 0, .string s, .slice (some ⟨g, 0, none⟩) 1 c] w (StripIs (left2 cs false false s.data.toList) w) := by
  rw [show left2 cs false false s.data.toList = tl (fun b => cs.data.toList.contains b) (tr (fun b => cs.data.toList.contains b) s.data.toList) from (tl_tr _ _).symm]
  exact f8_0one s _ w _ g c hg fun w1 h1 g1 c1 hg1 w2 h2 b hb => f35_strip_full s ha hs b w2 hb (tabs_below (tabs_below hT h1) h2) cs hca hcs hc0 g1 c1 (sub_cell hg1 h2)
theorem rf_0_full (s : ByteArray) (hs : s.size ≤ 100000) (w : World) (cs : ByteArray) (hcs : cs.size ≤ 100000) (hc0 : cs.toList.isEmpty = false) (g c : Nat) (hk : w.cell? ⟨g, 0, none⟩ = some (.int .i64 4)) (hg : w.cell? ⟨g, 4, none⟩ = some (.string cs)) : Calls Tryz.prog 7 #[.string s, .string ⟨#[115, 116, 114, 105, 112]⟩, .slice (some ⟨g, 0, none⟩) 1 c] w (ValIs3 (left2 cs false false s.data.toList) w) :=
  f7_any _ s _ _ w fun w1 h1 => f14_strip _ s (by rw [ByteArray.toList_eq]) _ _ w1 fun w2 h2 => f26_one_ff s _ hs (by rw [ByteArray.toList_eq]; decide) (by rw [ByteArray.toList_eq]; decide) w2 cs hcs hc0 g c (sub_cell (sub_cell hk h1) h2) (sub_cell (sub_cell hg h1) h2)
theorem im_1_none (s : ByteArray) (ha : Asc s.data.toList) (hs : s.size ≤ 100000) (w : World) (hT : Lib.Utf8Tabs 1 2 w) : Calls Tryz.prog 8 #[.int .i64 1, .string s, .slice none 0 0] w (StripIs (left2 ws6 false true s.data.toList) w) := by
  rw [show left2 ws6 false true s.data.toList = tl blankB s.data.toList from ws_blank _ ha]
  exact f8_1none s _ w fun w1 h1 w2 h2 b hb => f35_lstrip_none s ha hs b w2 hb (tabs_below (tabs_below hT h1) h2) _ (.inl rfl)
theorem rf_1_none (s : ByteArray) (hs : s.size ≤ 100000) (w : World) : Calls Tryz.prog 7 #[.string s, .string ⟨#[108, 115, 116, 114, 105, 112]⟩, .slice none 0 0] w (ValIs3 (left2 ws6 false true s.data.toList) w) :=
  f7_any _ s _ _ w fun w1 h1 => f14_lstrip _ s (by rw [ByteArray.toList_eq]) _ _ w1 fun w2 h2 => f26_none_ft s _ hs (by rw [ByteArray.toList_eq]; decide) (by rw [ByteArray.toList_eq]; ) w2
theorem im_1_void (s : ByteArray) (ha : Asc s.data.toList) (hs : s.size ≤ 100000) (w : World) (hT : Lib.Utf8Tabs 1 2 w) (g c : Nat) (hg : w.cell? ⟨g, 0, none⟩ = some (.string ⟨#[]⟩)) : Calls Tryz.prog 8 #[.int .i64 1, .string s, .slice (some ⟨g, 0, none⟩) 1 c] w (StripIs (left2 ws6 false true s.data.toList) w) := by
  rw [show left2 ws6 false true s.data.toList = tl blankB s.data.toList from ws_blank _ ha]
  exact f8_1one s _ w _ g c hg fun w1 h1 g1 c1 hg1 w2 h2 b hb => f35_lstrip_void s ha hs b w2 hb (tabs_below (tabs_below hT h1) h2) g1 c1 (sub_cell hg1 h2)
theorem rf_1_void (s : ByteArray) (hs : s.size ≤ 100000) (w : World) (g c : Nat) (hk : w.cell? ⟨g, 0, none⟩ = some (.int .i64 4)) (hg : w.cell? ⟨g, 4, none⟩ = some (.string ⟨#[]⟩)) : Calls Tryz.prog 7 #[.string s, .string ⟨#[108, 115, 116, 114, 105, 112]⟩, .slice (some ⟨g, 0, none⟩) 1 c] w (ValIs3 (left2 ws6 false true s.data.toList) w) :=
  f7_any _ s _ _ w fun w1 h1 => f14_lstrip _ s (by rw [ByteArray.toList_eq]) _ _ w1 fun w2 h2 => f26_void_ft s _ hs (by rw [ByteArray.toList_eq]; decide) (by rw [ByteArray.toList_eq]; ) w2 g c (sub_cell (sub_cell hk h1) h2) (sub_cell (sub_cell hg h1) h2)
theorem im_1_full (s : ByteArray) (ha : Asc s.data.toList) (hs : s.size ≤ 100000) (w : World) (hT : Lib.Utf8Tabs 1 2 w) (cs : ByteArray) (hca : Asc cs.data.toList) (hcs : cs.size ≤ 100000) (hc0 : cs.size ≠ 0) (g c : Nat) (hg : w.cell? ⟨g, 0, none⟩ = some (.string cs)) : Calls Tryz.prog 8 #[.int .i64 1, .string s, .slice (some ⟨g, 0, none⟩) 1 c] w (StripIs (left2 cs false true s.data.toList) w) := by
  rw [show left2 cs false true s.data.toList = tl (fun b => cs.data.toList.contains b) s.data.toList from rfl]
  exact f8_1one s _ w _ g c hg fun w1 h1 g1 c1 hg1 w2 h2 b hb => f35_lstrip_full s ha hs b w2 hb (tabs_below (tabs_below hT h1) h2) cs hca hcs hc0 g1 c1 (sub_cell hg1 h2)
theorem rf_1_full (s : ByteArray) (hs : s.size ≤ 100000) (w : World) (cs : ByteArray) (hcs : cs.size ≤ 100000) (hc0 : cs.toList.isEmpty = false) (g c : Nat) (hk : w.cell? ⟨g, 0, none⟩ = some (.int .i64 4)) (hg : w.cell? ⟨g, 4, none⟩ = some (.string cs)) : Calls Tryz.prog 7 #[.string s, .string ⟨#[108, 115, 116, 114, 105, 112]⟩, .slice (some ⟨g, 0, none⟩) 1 c] w (ValIs3 (left2 cs false true s.data.toList) w) :=
  f7_any _ s _ _ w fun w1 h1 => f14_lstrip _ s (by rw [ByteArray.toList_eq]) _ _ w1 fun w2 h2 => f26_one_ft s _ hs (by rw [ByteArray.toList_eq]; decide) (by rw [ByteArray.toList_eq]; ) w2 cs hcs hc0 g c (sub_cell (sub_cell hk h1) h2) (sub_cell (sub_cell hg h1) h2)
theorem im_2_none (s : ByteArray) (ha : Asc s.data.toList) (hs : s.size ≤ 100000) (w : World) (hT : Lib.Utf8Tabs 1 2 w) : Calls Tryz.prog 8 #[.int .i64 2, .string s, .slice none 0 0] w (StripIs (left2 ws6 true false s.data.toList) w) := by
  rw [show left2 ws6 true false s.data.toList = tr blankB s.data.toList from ws_blank2 _ ha]
  exact f8_2none s _ w fun w1 h1 w2 h2 b hb => f35_rstrip_none s ha hs b w2 hb (tabs_below (tabs_below hT h1) h2) _ (.inl rfl)
theorem rf_2_none (s : ByteArray) (hs : s.size ≤ 100000) (w : World) : Calls Tryz.prog 7 #[.string s, .string ⟨#[114, 115, 116, 114, 105, 112]⟩, .slice none 0 0] w (ValIs3 (left2 ws6 true false s.data.toList) w) :=
  f7_any _ s _ _ w fun w1 h1 => f14_rstrip _ s (by rw [ByteArray.toList_eq]) _ _ w1 fun w2 h2 => f26_none_tf s _ hs (by rw [ByteArray.toList_eq]; ) (by rw [ByteArray.toList_eq]; decide) w2
theorem im_2_void (s : ByteArray) (ha : Asc s.data.toList) (hs : s.size ≤ 100000) (w : World) (hT : Lib.Utf8Tabs 1 2 w) (g c : Nat) (hg : w.cell? ⟨g, 0, none⟩ = some (.string ⟨#[]⟩)) : Calls Tryz.prog 8 #[.int .i64 2, .string s, .slice (some ⟨g, 0, none⟩) 1 c] w (StripIs (left2 ws6 true false s.data.toList) w) := by
  rw [show left2 ws6 true false s.data.toList = tr blankB s.data.toList from ws_blank2 _ ha]
  exact f8_2one s _ w _ g c hg fun w1 h1 g1 c1 hg1 w2 h2 b hb => f35_rstrip_void s ha hs b w2 hb (tabs_below (tabs_below hT h1) h2) g1 c1 (sub_cell hg1 h2)
theorem rf_2_void (s : ByteArray) (hs : s.size ≤ 100000) (w : World) (g c : Nat) (hk : w.cell? ⟨g, 0, none⟩ = some (.int .i64 4)) (hg : w.cell? ⟨g, 4, none⟩ = some (.string ⟨#[]⟩)) : Calls Tryz.prog 7 #[.string s, .string ⟨#[114, 115, 116, 114, 105, 112]⟩, .slice (some ⟨g, 0, none⟩) 1 c] w (ValIs3 (left2 ws6 true false s.data.toList) w) :=
  f7_any _ s _ _ w fun w1 h1 => f14_rstrip _ s (by rw [ByteArray.toList_eq]) _ _ w1 fun w2 h2 => f26_void_tf s _ hs (by rw [ByteArray.toList_eq]; ) (by rw [ByteArray.toList_eq]; decide) w2 g c (sub_cell (sub_cell hk h1) h2) (sub_cell (sub_cell hg h1) h2)
theorem im_2_full (s : ByteArray) (ha : Asc s.data.toList) (hs : s.size ≤ 100000) (w : World) (hT : Lib.Utf8Tabs 1 2 w) (cs : ByteArray) (hca : Asc cs.data.toList) (hcs : cs.size ≤ 100000) (hc0 : cs.size ≠ 0) (g c : Nat) (hg : w.cell? ⟨g, 0, none⟩ = some (.string cs)) : Calls Tryz.prog 8 #[.int .i64 2, .string s, .slice (some ⟨g, 0, none⟩) 1 c] w (StripIs (left2 cs true false s.data.toList) w) := by
  rw [show left2 cs true false s.data.toList = tr (fun b => cs.data.toList.contains b) s.data.toList from rfl]
  exact f8_2one s _ w _ g c hg fun w1 h1 g1 c1 hg1 w2 h2 b hb => f35_rstrip_full s ha hs b w2 hb (tabs_below (tabs_below hT h1) h2) cs hca hcs hc0 g1 c1 (sub_cell hg1 h2)
theorem rf_2_full (s : ByteArray) (hs : s.size ≤ 100000) (w : World) (cs : ByteArray) (hcs : cs.size ≤ 100000) (hc0 : cs.toList.isEmpty = false) (g c : Nat) (hk : w.cell? ⟨g, 0, none⟩ = some (.int .i64 4)) (hg : w.cell? ⟨g, 4, none⟩ = some (.string cs)) : Calls Tryz.prog 7 #[.string s, .string ⟨#[114, 115, 116, 114, 105, 112]⟩, .slice (some ⟨g, 0, none⟩) 1 c] w (ValIs3 (left2 cs true false s.data.toList) w) :=
  f7_any _ s _ _ w fun w1 h1 => f14_rstrip _ s (by rw [ByteArray.toList_eq]) _ _ w1 fun w2 h2 => f26_one_tf s _ hs (by rw [ByteArray.toList_eq]; ) (by rw [ByteArray.toList_eq]; decide) w2 cs hcs hc0 g c (sub_cell (sub_cell hk h1) h2) (sub_cell (sub_cell hg h1) h2)
end Go.Proofs.YtgcofpmhojplhaaGreatDoor
