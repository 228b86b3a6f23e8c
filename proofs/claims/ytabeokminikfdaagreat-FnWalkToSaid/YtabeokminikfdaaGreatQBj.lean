import Derived.Test.YtabeokminikfdaaGreatQBg
import Derived.Test.YtabeokminikfdaaGreatQBh
import Derived.Test.YtabeokminikfdaaGreatQBi
set_option linter.all false
namespace Go.Proofs.YtabeokminikfdaaGreat
open Go.RowKit
theorem SlAt.tail {W : World} {k g off n c : Nat} {P : Nat → Array Value → Prop} (m : Nat) (h : SlAt W k (.slice (some ⟨g, off, none⟩) n c) n P) (hm : m ≤ n) : SlAt W k (.slice (some ⟨g, off + m * k, none⟩) (n - m) (c - m)) (n - m) fun i cs => P (i + m) cs := by
 obtain ⟨a, c', hv, h1, h2, h3⟩ := h
 cases hv
 refine ⟨_, _, rfl, by omega, by unfold maxLen at *; omega, fun h0 => ⟨g, off + m * k, rfl, fun i hi => ?_⟩⟩
 obtain ⟨g', off', ha, hel⟩ := h3 (by omega)
 cases ha
 obtain ⟨cs, hs, hc, hp⟩ := hel (i + m) (by omega)
 exact ⟨cs, hs, fun j hj => by rw [← hc j hj]; congr 2; rw [Nat.add_mul]; omega, hp⟩
theorem SlAt.none0 {W : World} {k : Nat} {a : Option Addr} {c : Nat} {P : Nat → Array Value → Prop} (h : c ≤ maxLen) : SlAt W k (.slice a 0 c) 0 P :=
 ⟨a, c, rfl, Nat.zero_le _, h, fun h => absurd h (Nat.lt_irrefl 0)⟩
theorem RowOf.cons {τ : Type} {W : World} {k g off n c c' : Nat} {a' : Option Addr} {Q Q' : Nat → Array Value → τ → Prop} {t : τ} {ts : List τ} {cs : Array Value} (he : El W k g off 0 cs) (hq : Q 0 cs t) (hn : n = ts.length + 1) (hc : n ≤ c) (hm : c ≤ maxLen)
  (h : RowOf W k Q' (.slice a' ts.length c') ts) (ha : 0 < ts.length → a' = some ⟨g, off + 1 * k, none⟩) (hQ : ∀ i cs t, Q' i cs t → Q (i + 1) cs t) : RowOf W k Q (.slice (some ⟨g, off, none⟩) n c) (t :: ts) := by
 subst hn
 refine ⟨_, c, rfl, hc, hm, fun _ => ⟨g, off, rfl, fun i hi => ?_⟩⟩
 cases i with
 | zero => exact ⟨cs, he, hq⟩
 | succ i =>
  obtain ⟨a, c2, hv, h1, h2, h3⟩ := h
  cases hv
  have hi' : i < ts.length := by simpa using hi
  obtain ⟨g', off', ha', hel⟩ := h3 (by omega)
  rw [ha (by omega)] at ha'
  cases ha'
  obtain ⟨cs', ⟨hs, hc'⟩, hq'⟩ := hel i hi'
  exact ⟨cs', ⟨hs, fun j hj => by rw [← hc' j hj]; congr 2; rw [Nat.add_mul]; omega⟩, hQ i cs' _ hq'⟩
theorem RowOf.append {τ : Type} {W : World} {k g off n c c1 c2 : Nat} {a2 : Option Addr} {Q Q1 Q2 : Nat → Array Value → τ → Prop} {ts us : List τ} (h1 : RowOf W k Q1 (.slice (some ⟨g, off, none⟩) ts.length c1) ts) (hn : n = ts.length + us.length) (hc : n ≤ c) (hm : c ≤ maxLen)
  (h2 : RowOf W k Q2 (.slice a2 us.length c2) us) (ha : 0 < us.length → a2 = some ⟨g, off + ts.length * k, none⟩) (hQ1 : ∀ i cs t, i < ts.length → Q1 i cs t → Q i cs t) (hQ2 : ∀ i cs t, Q2 i cs t → Q (i + ts.length) cs t) : RowOf W k Q (.slice (some ⟨g, off, none⟩) n c) (ts ++ us) := by
 subst hn
 refine ⟨_, c, by rw [List.length_append], by rw [List.length_append]; exact hc, hm, fun _ => ⟨g, off, rfl, fun i hi => ?_⟩⟩
 by_cases hit : i < ts.length
 ·obtain ⟨a, c', hv, _, _, h⟩ := h1
  cases hv
  obtain ⟨g', off', ha', hel⟩ := h (by omega)
  cases ha'
  obtain ⟨cs, he, hq⟩ := hel i hit
  exact ⟨cs, he, by rw [List.getElem_append_left hit]; exact hQ1 i cs _ hit hq⟩
 ·obtain ⟨a, c', hv, _, _, h⟩ := h2
  cases hv
  have hiu : i - ts.length < us.length := by simp at hi; omega
  obtain ⟨g', off', ha', hel⟩ := h (by omega)
  rw [ha (by omega)] at ha'
  cases ha'
  obtain ⟨cs, ⟨hs, hc'⟩, hq⟩ := hel (i - ts.length) hiu
  refine ⟨cs, ⟨hs, fun j hj => ?_⟩, ?_⟩
  ·rw [← hc' j hj]
   congr 2
   have : i * k = ts.length * k + (i - ts.length) * k := by rw [← Nat.add_mul]; congr 1; omega
   omega
  ·rw [List.getElem_append_right (by omega)]
   have := hQ2 _ _ _ hq
   rwa [show i - ts.length + ts.length = i by omega] at this
theorem SlAt.cap {W : World} {k n n' c : Nat} {a : Option Addr} {P : Nat → Array Value → Prop} (h : SlAt W k (.slice a n c) n' P) : c ≤ maxLen := by
 obtain ⟨_, _, hv, _, h3, _⟩ := h
 cases hv
 exact h3
theorem f29_any (vk : Int) (vn : Bool) (vb : Nat) (vt : ByteArray) (a1 a2 : Option Addr) (n1 m1 n2 m2 : Nat) (hc : n1 ≤ 9223372036854775807) (w : World) (h0 : 0 < n1 → ∃ g off, ∃ b : Nat, a1 = some ⟨g, off, none⟩ ∧ w.cell? ⟨g, off, none⟩ = some (.int .u8 b)) :
  Calls Tryz.prog 29 #[.agg #[.int .i64 vk, .bool vn, .slice a1 n1 m1, .int .u64 vb, .string vt, .slice a2 n2 m2]] w (LitPost (LitF vk vn n1 vb) w) := by
 by_cases h2 : vk = 2
 ·subst h2
  exact f29_2 _ vn vb vt a1 a2 n1 m1 n2 m2 hc w h0 fun e h => .inl ⟨rfl, e, h⟩
 by_cases h3 : vk = 3
 ·subst h3
  exact f29_3 _ vn vb vt a1 a2 n1 m1 n2 m2 w fun h => .inr (.inl ⟨rfl, h⟩)
 by_cases h4 : vk = 4
 ·exact f29_45 vk (.inl h4) _ vn vb vt a1 a2 n1 m1 n2 m2 w (.inr (.inr (.inl h4)))
 by_cases h5 : vk = 5
 ·exact f29_45 vk (.inr h5) _ vn vb vt a1 a2 n1 m1 n2 m2 w (.inr (.inr (.inr h5)))
 exact f29_no vk h2 h3 h4 h5 _ vn vb vt a1 a2 n1 m1 n2 m2 w
def osizes : List (Option Tr) → Nat
 | [] => 0
 | none :: r => osizes r
 | some t :: r => t.size + 1 + osizes r
theorem osizes_append : ∀ a b : List (Option Tr), osizes (a ++ b) = osizes a + osizes b
 | [], b => by simp [osizes]
 | none :: a, b => by simp [osizes, osizes_append a b]
 | some t :: a, b => by simp [osizes, osizes_append a b, Nat.add_assoc]
def SliceQ (X : EV → Tr → Prop) (i : Nat) (cs : Array Value) (o : Option Tr) : Prop := OQ X i cs o ∧ (i = 0 → ∃ t, o = some t)
def Sofar3 (W : World) (X : EV → Tr → Prop) (a : Option Addr) (gf : Nat) (n : Int) (w : World) (k : Nat) (wr : World) : Prop :=
 ∃ (n' : Int) (os : List (Option Tr)), os.length = k ∧ FW gf n' w wr ∧ 0 ≤ n' ∧ n' ≤ n ∧ (osizes os : Int) ≤ 3 * (n - n') ∧ Elems W 11 (SliceQ X) a os
theorem Sofar3.snoc {W : World} {X : EV → Tr → Prop} {g off : Nat} {gf : Nat} {n n' n2 : Int} {w w2 : World} {k : Nat} {ts : List (Option Tr)} {o : Option Tr} {cs : Array Value} (hl : ts.length = k) (hz : (osizes ts : Int) ≤ 3 * (n - n')) (hn : n' ≤ n) (hE : Elems W 11 (SliceQ X) (some ⟨g, off, none⟩) ts) (he : El W 11 g off k cs) (hq : SliceQ X k cs o) (hw : FW gf n2 w w2) (h0 : 0 ≤ n2) (h1 : n2 ≤ n') (ht : (osizes [o] : Int) ≤ 3 * (n' - n2)) : Sofar3 W X (some ⟨g, off, none⟩) gf n w (k + 1) w2 :=
 ⟨n2, ts ++ [o], by simp [hl], hw, h0, by omega, by rw [osizes_append]; omega, hE.snoc hl he hq⟩
theorem twos_size : ∀ ts : List Tr, sizes (twos ts) ≤ sizes ts + ts.length
 | [] => by simp [twos, sizes]
 | [t] => by simp [twos, sizes]
 | a :: b :: r => by
  have := twos_size r
  simp only [twos, sizes, Tr.size, List.length_cons]
  omega
end Go.Proofs.YtabeokminikfdaaGreat
