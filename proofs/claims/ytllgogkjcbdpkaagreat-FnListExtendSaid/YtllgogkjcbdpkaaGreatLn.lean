/- A slice of values that came in: what the law's walk asks of it. -/
import Derived.Test.YtllgogkjcbdpkaaGreatLm
import Derived.Deep.Slices
import Derived.Deep.Fields
import Derived.ChangeSlices
namespace Go.Proofs.YtllgogkjcbdpkaaGreat
open Go.RowKit Go.ChangeShapes Go.WideShapes
open Z (Row IsRow)

theorem spot_none {w : World} {a : Addr} {v : Value} (h : w.cell? a = some v) : a.spot = none := by
  unfold World.cell? at h
  split at h
  · cases hsp : a.spot with
    | none => rfl
    | some s => simp [hsp] at h
  · cases h
theorem bytes_open {H : Type} {enc : TypeId × Value → H} {W : World} {m : Nat} {v : Value} {x : DataW H × List MemPlace} (h : DataW.trod enc Tryz.prog W 0 (fun _ => true) true m 28 [v] = some x) : ∃ l : List Nat, l.length ≤ 9223372036854775807 ∧ (∀ d ∈ l, d < 256) ∧ Row 0 .u8 W v l := by
  rcases open_ints Tryz.underlying28 Tryz.underlying5 (by kernel_rfl) h with ⟨hcs, _⟩ | ⟨x, l, c, zs, hcs, _, hl, hm, hz, _, hcell, hwz⟩
  · simp at hcs
    subst hcs
    exact ⟨[], by simp, by simp, .inl ⟨rfl, .inl rfl⟩⟩
  · simp at hcs
    subst hcs
    obtain ⟨r, h1, h2, h3⟩ := Z.IsRow.toRow (w := W) (a := some x) (len := l) (cap := c) (zs := zs) (.inr ⟨_, rfl, hl, hm, by simpa using hz, hcell, hwz⟩)
    exact ⟨r, by rw [h1]; unfold maxLen at hm; omega, h2, h3⟩
set_option maxRecDepth 100000 in
theorem args_open {H : Type} {enc : TypeId × Value → H} {W : World} {fuel : Nat} {A : Option Addr} {n c : Nat} {x : DataW H × List MemPlace} (h : DataW.trod enc Tryz.prog W 0 (fun _ => true) true fuel 22 [.slice A n c] = some x) : ArgsL W A n c := by
  rcases Go.Deep.open_slice Tryz.underlying22 h with ⟨hcs, _⟩ | ⟨a, len, cap, m, k, D, Pl, hcs, hb, hl, hm, hmm, hx, hi⟩
  · simp at hcs
    exact .inl hcs.2.1
  · simp at hcs
    obtain ⟨rfl, rfl, rfl⟩ := hcs
    simp at hmm
    subst hmm
    have hc6 : Tryz.prog.cellsOf 31 = 6 := by kernel_rfl
    rw [hc6] at hi
    by_cases h0 : n = 0
    · exact .inl h0
    have hsp : a.spot = none := by
      obtain ⟨cs', h1, _⟩ := hi 0 (by omega)
      obtain ⟨_, h3, h4⟩ := World.cells?_some h1
      have h5 := h4 0 (by omega)
      have : cs'[0]? = some (cs'[0]'(by omega)) := List.getElem?_eq_getElem (by omega)
      rw [this] at h5
      have ha : (a.add (0 * 6)).add 0 = a := by simp [Addr.add]
      rw [ha] at h5
      exact spot_none h5
    obtain ⟨g, off, sp⟩ := a
    simp only at hsp
    subst hsp
    have hadd : ∀ i j, ((⟨g, off, none⟩ : Addr).add i).add j = ⟨g, off + i + j, none⟩ := fun i j => by
      rw [Go.Deep.add_add]; unfold Addr.add; split <;> simp_all; omega
    refine .inr ⟨g, off, rfl, hl, fun i hin => ?_⟩
    obtain ⟨cs', h1, h2⟩ := hi i (by omega)
    obtain ⟨_, h3, h4⟩ := World.cells?_some h1
    obtain ⟨xs, q, _, _, _, hxl, hf⟩ := DataW.trod_struct Tryz.underlying31 h2
    match cs', h3 with
    | [k0, k1, k2, k3, k4, k5], _ =>
      have hc1 : ∀ j (hj : j < 6), W.cell? ⟨g, off + i * 6 + j, none⟩ = [k0, k1, k2, k3, k4, k5][j]? := fun j hj => by rw [← hadd]; exact h4 j hj
      have f0 : DataW.trod enc Tryz.prog W 0 (fun _ => true) true q 3 [k0] = some (xs[0]'(by simp at hxl; omega)) := by
        have h : DataW.trod enc Tryz.prog W 0 (fun _ => true) true q 3 (List.take (Tryz.prog.cellsOf 3) (List.drop 0 [k0, k1, k2, k3, k4, k5])) = xs[0]? := hf 0 _ rfl
        rw [List.getElem?_eq_getElem (by simp at hxl; omega), show Tryz.prog.cellsOf 3 = 1 by kernel_rfl] at h
        exact h
      have f1 : DataW.trod enc Tryz.prog W 0 (fun _ => true) true q 4 [k1] = some (xs[1]'(by simp at hxl; omega)) := by
        have h : DataW.trod enc Tryz.prog W 0 (fun _ => true) true q 4 (List.take (Tryz.prog.cellsOf 4) (List.drop 1 [k0, k1, k2, k3, k4, k5])) = xs[1]? := hf 1 _ rfl
        rw [List.getElem?_eq_getElem (by simp at hxl; omega), show Tryz.prog.cellsOf 4 = 1 by kernel_rfl] at h
        exact h
      have f2 : DataW.trod enc Tryz.prog W 0 (fun _ => true) true q 28 [k2] = some (xs[2]'(by simp at hxl; omega)) := by
        have h : DataW.trod enc Tryz.prog W 0 (fun _ => true) true q 28 (List.take (Tryz.prog.cellsOf 28) (List.drop 2 [k0, k1, k2, k3, k4, k5])) = xs[2]? := hf 2 _ rfl
        rw [List.getElem?_eq_getElem (by simp at hxl; omega), show Tryz.prog.cellsOf 28 = 1 by kernel_rfl] at h
        exact h
      have f3 : DataW.trod enc Tryz.prog W 0 (fun _ => true) true q 29 [k3] = some (xs[3]'(by simp at hxl; omega)) := by
        have h : DataW.trod enc Tryz.prog W 0 (fun _ => true) true q 29 (List.take (Tryz.prog.cellsOf 29) (List.drop 3 [k0, k1, k2, k3, k4, k5])) = xs[3]? := hf 3 _ rfl
        rw [List.getElem?_eq_getElem (by simp at hxl; omega), show Tryz.prog.cellsOf 29 = 1 by kernel_rfl] at h
        exact h
      have f4 : DataW.trod enc Tryz.prog W 0 (fun _ => true) true q 9 [k4] = some (xs[4]'(by simp at hxl; omega)) := by
        have h : DataW.trod enc Tryz.prog W 0 (fun _ => true) true q 9 (List.take (Tryz.prog.cellsOf 9) (List.drop 4 [k0, k1, k2, k3, k4, k5])) = xs[4]? := hf 4 _ rfl
        rw [List.getElem?_eq_getElem (by simp at hxl; omega), show Tryz.prog.cellsOf 9 = 1 by kernel_rfl] at h
        exact h
      obtain ⟨K, e0, _⟩ := DataW.trod_int Tryz.underlying3 f0
      obtain ⟨d, e1, _⟩ := DataW.trod_bool Tryz.underlying4 f1
      obtain ⟨l, hl1, hl2, hl3⟩ := bytes_open f2
      obtain ⟨b, e3, _, hb3⟩ := DataW.trod_int Tryz.underlying29 f3
      obtain ⟨t, e4, _, ht4⟩ := DataW.trod_string Tryz.underlying9 f4
      simp at e0 e1 e3 e4
      subst e0 e1 e3 e4
      have hb5 : 0 ≤ b ∧ b < 18446744073709551616 := by
        simp [Lit.wf, show IntKind.u64.min = 0 from by decide, show IntKind.u64.max = 18446744073709551615 from by decide] at hb3
        omega
      obtain ⟨bn, rfl⟩ : ∃ bn : Nat, b = (bn : Int) := ⟨b.toNat, by omega⟩
      exact ⟨_, _, _, _, _, k5, ⟨K, d, k2, k5, bn, t, l, rfl, by omega, by unfold maxLen at ht4; omega, hl1, hl2, hl3⟩, hc1 0 (by omega), hc1 1 (by omega), hc1 2 (by omega), hc1 3 (by omega), hc1 4 (by omega), hc1 5 (by omega)⟩
end Go.Proofs.YtllgogkjcbdpkaaGreat
