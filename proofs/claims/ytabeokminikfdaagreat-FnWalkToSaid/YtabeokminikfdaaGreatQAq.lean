import Derived.Test.YtabeokminikfdaaGreatQAk
import Derived.Test.YtabeokminikfdaaGreatQAl
import Derived.Test.YtabeokminikfdaaGreatQAm
import Derived.Test.YtabeokminikfdaaGreatQAn
import Derived.Test.YtabeokminikfdaaGreatQAo
import Derived.Test.YtabeokminikfdaaGreatQAp
set_option linter.all false
namespace Go.Proofs.YtabeokminikfdaaGreat
open Go.RowKit
theorem walk_all (P : Nat → Prop) (B be bn bl bf : Nat) (few : Int) (hP : Reads P B be bn bl bf) : ∀ sz : Nat, WalkAt P B be bn bl bf few sz
 | 0 => fun x t s v w hz _ _ _ _ _ _ => absurd t.size_pos (by omega)
 | sz + 1 => by
  have hW := walk_all P B be bn bl bf few hP sz
  intro x t s v w hz hm h1 he hC hB hd
  cases hd with
  | ident g nm hc => exact f15_53 P B be bn bl bf few g nm s v w (by simp [Tr.size] at hm; omega) h1 he hC hP hB hc
  | other T g fs ks hf hk =>
   simp only [Tr.size] at hz hm
   unfold fields at hf
   split at hf
   ·injection hf with hf; subst hf
    obtain ⟨a0, n0, m0, r0, ts0, c0, d0, e0, k0, rfl⟩ := fds_row hk
    obtain rfl := fds_nil k0
    simp only [sizes, sizes_append] at hz hm
    exact f15_46 P B be bn bl bf few sz hW g s v w a0 n0 m0 r0 c0 d0 e0 (by omega) (by omega) h1 he hC hP hB
   ·injection hf with hf; subst hf
    obtain ⟨x0, t0, ts0, c0, d0, k0, rfl⟩ := fds_node hk
    obtain rfl := fds_nil k0
    simp only [sizes, sizes_append] at hz hm
    exact f15_79 P B be bn bl bf few sz hW g s v w x0 t0 c0 d0 (by omega) (by omega) h1 he hC hP hB
   ·injection hf with hf; subst hf
    obtain rfl := fds_nil hk
    simp only [sizes, sizes_append] at hz hm
    exact f15_84 P B be bn bl bf few sz hW g s v w  (by omega) (by omega) h1 he hC hP hB
   ·injection hf with hf; subst hf
    obtain ⟨x0, t0, ts0, c0, d0, k0, rfl⟩ := fds_node hk
    obtain ⟨a1, n1, m1, r1, ts1, c1, d1, e1, k1, rfl⟩ := fds_row k0
    obtain ⟨a2, n2, m2, r2, ts2, c2, d2, e2, k2, rfl⟩ := fds_row k1
    obtain rfl := fds_nil k2
    simp only [sizes, sizes_append] at hz hm
    exact f15_85 P B be bn bl bf few sz hW g s v w x0 t0 c0 d0 a1 n1 m1 r1 c1 d1 e1 a2 n2 m2 r2 c2 d2 e2 (by omega) (by omega) h1 he hC hP hB
   ·injection hf with hf; subst hf
    obtain ⟨x0, t0, ts0, c0, d0, k0, rfl⟩ := fds_node hk
    obtain ⟨x1, t1, ts1, c1, d1, k1, rfl⟩ := fds_node k0
    obtain rfl := fds_nil k1
    simp only [sizes, sizes_append] at hz hm
    exact f15_88 P B be bn bl bf few sz hW g s v w x0 t0 c0 d0 x1 t1 c1 d1 (by omega) (by omega) h1 he hC hP hB
   ·injection hf with hf; subst hf
    obtain ⟨x0, t0, ts0, c0, d0, k0, rfl⟩ := fds_ptr hk
    obtain ⟨a1, n1, m1, r1, ts1, c1, d1, e1, k1, rfl⟩ := fds_row k0
    obtain ⟨a2, n2, m2, r2, ts2, c2, d2, e2, k2, rfl⟩ := fds_row k1
    obtain rfl := fds_nil k2
    simp only [sizes, sizes_append] at hz hm
    exact f15_93 P B be bn bl bf few sz hW g s v w x0 t0 c0 d0 a1 n1 m1 r1 c1 d1 e1 a2 n2 m2 r2 c2 d2 e2 (by omega) (by omega) h1 he hC hP hB
   ·injection hf with hf; subst hf
    obtain ⟨x0, t0, ts0, c0, d0, k0, rfl⟩ := fds_node hk
    obtain ⟨x1, t1, ts1, c1, d1, k1, rfl⟩ := fds_node k0
    obtain ⟨a2, n2, m2, r2, ts2, c2, d2, e2, k2, rfl⟩ := fds_row k1
    obtain rfl := fds_nil k2
    simp only [sizes, sizes_append] at hz hm
    exact f15_97 P B be bn bl bf few sz hW g s v w x0 t0 c0 d0 x1 t1 c1 d1 a2 n2 m2 r2 c2 d2 e2 (by omega) (by omega) h1 he hC hP hB
   ·injection hf with hf; subst hf
    obtain ⟨x0, t0, ts0, c0, d0, k0, rfl⟩ := fds_node hk
    obtain ⟨a1, n1, m1, r1, ts1, c1, d1, e1, k1, rfl⟩ := fds_row k0
    obtain rfl := fds_nil k1
    simp only [sizes, sizes_append] at hz hm
    exact f15_100 P B be bn bl bf few sz hW g s v w x0 t0 c0 d0 a1 n1 m1 r1 c1 d1 e1 (by omega) (by omega) h1 he hC hP hB
   ·injection hf with hf; subst hf
    rcases fds_opt hk with ⟨c0, k0⟩ | ⟨x0, t0, ts0, c0, d0, k0, rfl⟩
    ·obtain rfl := fds_nil k0
     simp only [sizes, sizes_append] at hz hm
     exact f15_103_n P B be bn bl bf few sz hW g s v w c0 (by omega) (by omega) h1 he hC hP hB
    ·obtain rfl := fds_nil k0
     simp only [sizes, sizes_append] at hz hm
     exact f15_103_y P B be bn bl bf few sz hW g s v w x0 t0 c0 d0 (by omega) (by omega) h1 he hC hP hB
   ·injection hf with hf; subst hf
    obtain ⟨x0, t0, ts0, c0, d0, k0, rfl⟩ := fds_ptr hk
    obtain ⟨a1, n1, m1, r1, ts1, c1, d1, e1, k1, rfl⟩ := fds_row k0
    obtain ⟨a2, n2, m2, r2, ts2, c2, d2, e2, k2, rfl⟩ := fds_row k1
    obtain rfl := fds_nil k2
    simp only [sizes, sizes_append] at hz hm
    exact f15_106 P B be bn bl bf few sz hW g s v w x0 t0 c0 d0 a1 n1 m1 r1 c1 d1 e1 a2 n2 m2 r2 c2 d2 e2 (by omega) (by omega) h1 he hC hP hB
   ·injection hf with hf; subst hf
    obtain rfl := fds_nil hk
    simp only [sizes, sizes_append] at hz hm
    exact f15_107 P B be bn bl bf few sz hW g s v w  (by omega) (by omega) h1 he hC hP hB
   ·injection hf with hf; subst hf
    obtain ⟨a0, n0, m0, r0, ts0, c0, d0, e0, k0, rfl⟩ := fds_row hk
    obtain rfl := fds_nil k0
    simp only [sizes, sizes_append] at hz hm
    exact f15_110 P B be bn bl bf few sz hW g s v w a0 n0 m0 r0 c0 d0 e0 (by omega) (by omega) h1 he hC hP hB
   ·injection hf with hf; subst hf
    obtain ⟨x0, t0, ts0, c0, d0, k0, rfl⟩ := fds_node hk
    obtain rfl := fds_nil k0
    simp only [sizes, sizes_append] at hz hm
    exact f15_113 P B be bn bl bf few sz hW g s v w x0 t0 c0 d0 (by omega) (by omega) h1 he hC hP hB
   ·injection hf with hf; subst hf
    obtain ⟨x0, t0, ts0, c0, d0, k0, rfl⟩ := fds_node hk
    obtain ⟨x1, t1, ts1, c1, d1, k1, rfl⟩ := fds_node k0
    obtain ⟨x2, t2, ts2, c2, d2, k2, rfl⟩ := fds_node k1
    obtain rfl := fds_nil k2
    simp only [sizes, sizes_append] at hz hm
    exact f15_116 P B be bn bl bf few sz hW g s v w x0 t0 c0 d0 x1 t1 c1 d1 x2 t2 c2 d2 (by omega) (by omega) h1 he hC hP hB
   ·injection hf with hf; subst hf
    obtain ⟨x0, t0, ts0, c0, d0, k0, rfl⟩ := fds_node hk
    obtain ⟨x1, t1, ts1, c1, d1, k1, rfl⟩ := fds_node k0
    obtain rfl := fds_nil k1
    simp only [sizes, sizes_append] at hz hm
    exact f15_119 P B be bn bl bf few sz hW g s v w x0 t0 c0 d0 x1 t1 c1 d1 (by omega) (by omega) h1 he hC hP hB
   ·injection hf with hf; subst hf
    obtain ⟨x0, t0, ts0, c0, d0, k0, rfl⟩ := fds_node hk
    obtain ⟨x1, t1, ts1, c1, d1, k1, rfl⟩ := fds_node k0
    obtain rfl := fds_nil k1
    simp only [sizes, sizes_append] at hz hm
    exact f15_122 P B be bn bl bf few sz hW g s v w x0 t0 c0 d0 x1 t1 c1 d1 (by omega) (by omega) h1 he hC hP hB
   ·injection hf with hf; subst hf
    obtain ⟨x0, t0, ts0, c0, d0, k0, rfl⟩ := fds_node hk
    rcases fds_opt k0 with ⟨c1, k1⟩ | ⟨x1, t1, ts1, c1, d1, k1, rfl⟩
    ·rcases fds_opt k1 with ⟨c2, k2⟩ | ⟨x2, t2, ts2, c2, d2, k2, rfl⟩
     ·rcases fds_opt k2 with ⟨c3, k3⟩ | ⟨x3, t3, ts3, c3, d3, k3, rfl⟩
      ·obtain rfl := fds_nil k3
       simp only [sizes, sizes_append] at hz hm
       exact f15_125_nnn P B be bn bl bf few sz hW g s v w x0 t0 c0 d0 c1 c2 c3 (by omega) (by omega) h1 he hC hP hB
      ·obtain rfl := fds_nil k3
       simp only [sizes, sizes_append] at hz hm
       exact f15_125_nny P B be bn bl bf few sz hW g s v w x0 t0 c0 d0 c1 c2 x3 t3 c3 d3 (by omega) (by omega) h1 he hC hP hB
     ·rcases fds_opt k2 with ⟨c3, k3⟩ | ⟨x3, t3, ts3, c3, d3, k3, rfl⟩
      ·obtain rfl := fds_nil k3
       simp only [sizes, sizes_append] at hz hm
       exact f15_125_nyn P B be bn bl bf few sz hW g s v w x0 t0 c0 d0 c1 x2 t2 c2 d2 c3 (by omega) (by omega) h1 he hC hP hB
      ·obtain rfl := fds_nil k3
       simp only [sizes, sizes_append] at hz hm
       exact f15_125_nyy P B be bn bl bf few sz hW g s v w x0 t0 c0 d0 c1 x2 t2 c2 d2 x3 t3 c3 d3 (by omega) (by omega) h1 he hC hP hB
    ·rcases fds_opt k1 with ⟨c2, k2⟩ | ⟨x2, t2, ts2, c2, d2, k2, rfl⟩
     ·rcases fds_opt k2 with ⟨c3, k3⟩ | ⟨x3, t3, ts3, c3, d3, k3, rfl⟩
      ·obtain rfl := fds_nil k3
       simp only [sizes, sizes_append] at hz hm
       exact f15_125_ynn P B be bn bl bf few sz hW g s v w x0 t0 c0 d0 x1 t1 c1 d1 c2 c3 (by omega) (by omega) h1 he hC hP hB
      ·obtain rfl := fds_nil k3
       simp only [sizes, sizes_append] at hz hm
       exact f15_125_yny P B be bn bl bf few sz hW g s v w x0 t0 c0 d0 x1 t1 c1 d1 c2 x3 t3 c3 d3 (by omega) (by omega) h1 he hC hP hB
     ·rcases fds_opt k2 with ⟨c3, k3⟩ | ⟨x3, t3, ts3, c3, d3, k3, rfl⟩
      ·obtain rfl := fds_nil k3
       simp only [sizes, sizes_append] at hz hm
       exact f15_125_yyn P B be bn bl bf few sz hW g s v w x0 t0 c0 d0 x1 t1 c1 d1 x2 t2 c2 d2 c3 (by omega) (by omega) h1 he hC hP hB
      ·obtain rfl := fds_nil k3
       simp only [sizes, sizes_append] at hz hm
       exact f15_125_yyy P B be bn bl bf few sz hW g s v w x0 t0 c0 d0 x1 t1 c1 d1 x2 t2 c2 d2 x3 t3 c3 d3 (by omega) (by omega) h1 he hC hP hB
   ·injection hf with hf; subst hf
    obtain ⟨x0, t0, ts0, c0, d0, k0, rfl⟩ := fds_node hk
    obtain ⟨a1, n1, m1, r1, ts1, c1, d1, e1, k1, rfl⟩ := fds_row k0
    obtain rfl := fds_nil k1
    simp only [sizes, sizes_append] at hz hm
    exact f15_128 P B be bn bl bf few sz hW g s v w x0 t0 c0 d0 a1 n1 m1 r1 c1 d1 e1 (by omega) (by omega) h1 he hC hP hB
   ·injection hf with hf; subst hf
    obtain ⟨x0, t0, ts0, c0, d0, k0, rfl⟩ := fds_node hk
    obtain rfl := fds_nil k0
    simp only [sizes, sizes_append] at hz hm
    exact f15_131 P B be bn bl bf few sz hW g s v w x0 t0 c0 d0 (by omega) (by omega) h1 he hC hP hB
   ·injection hf with hf; subst hf
    obtain ⟨x0, t0, ts0, c0, d0, k0, rfl⟩ := fds_node hk
    obtain ⟨x1, t1, ts1, c1, d1, k1, rfl⟩ := fds_node k0
    obtain rfl := fds_nil k1
    simp only [sizes, sizes_append] at hz hm
    exact f15_134 P B be bn bl bf few sz hW g s v w x0 t0 c0 d0 x1 t1 c1 d1 (by omega) (by omega) h1 he hC hP hB
   ·injection hf with hf; subst hf
    obtain ⟨a0, n0, m0, r0, ts0, c0, d0, e0, k0, rfl⟩ := fds_row hk
    obtain rfl := fds_nil k0
    simp only [sizes, sizes_append] at hz hm
    exact f15_137 P B be bn bl bf few sz hW g s v w a0 n0 m0 r0 c0 d0 e0 (by omega) (by omega) h1 he hC hP hB
   ·injection hf with hf; subst hf
    obtain ⟨a0, n0, m0, r0, ts0, c0, d0, e0, k0, rfl⟩ := fds_row hk
    obtain rfl := fds_nil k0
    simp only [sizes, sizes_append] at hz hm
    exact f15_140 P B be bn bl bf few sz hW g s v w a0 n0 m0 r0 c0 d0 e0 (by omega) (by omega) h1 he hC hP hB
   ·injection hf with hf; subst hf
    rcases fds_opt hk with ⟨c0, k0⟩ | ⟨x0, t0, ts0, c0, d0, k0, rfl⟩
    ·obtain rfl := fds_nil k0
     simp only [sizes, sizes_append] at hz hm
     exact f15_143_n P B be bn bl bf few sz hW g s v w c0 (by omega) (by omega) h1 he hC hP hB
    ·obtain rfl := fds_nil k0
     simp only [sizes, sizes_append] at hz hm
     exact f15_143_y P B be bn bl bf few sz hW g s v w x0 t0 c0 d0 (by omega) (by omega) h1 he hC hP hB
   ·injection hf with hf; subst hf
    obtain ⟨x0, t0, ts0, c0, d0, k0, rfl⟩ := fds_node hk
    obtain ⟨x1, t1, ts1, c1, d1, k1, rfl⟩ := fds_node k0
    obtain rfl := fds_nil k1
    simp only [sizes, sizes_append] at hz hm
    exact f15_146 P B be bn bl bf few sz hW g s v w x0 t0 c0 d0 x1 t1 c1 d1 (by omega) (by omega) h1 he hC hP hB
   ·injection hf with hf; subst hf
    obtain ⟨x0, t0, ts0, c0, d0, k0, rfl⟩ := fds_node hk
    obtain ⟨x1, t1, ts1, c1, d1, k1, rfl⟩ := fds_ptr k0
    obtain rfl := fds_nil k1
    simp only [sizes, sizes_append] at hz hm
    exact f15_149 P B be bn bl bf few sz hW g s v w x0 t0 c0 d0 x1 t1 c1 d1 (by omega) (by omega) h1 he hC hP hB
   ·injection hf with hf; subst hf
    obtain ⟨x0, t0, ts0, c0, d0, k0, rfl⟩ := fds_node hk
    obtain ⟨a1, n1, m1, r1, ts1, c1, d1, e1, k1, rfl⟩ := fds_row k0
    obtain rfl := fds_nil k1
    simp only [sizes, sizes_append] at hz hm
    exact f15_152 P B be bn bl bf few sz hW g s v w x0 t0 c0 d0 a1 n1 m1 r1 c1 d1 e1 (by omega) (by omega) h1 he hC hP hB
   ·injection hf with hf; subst hf
    obtain ⟨a0, n0, m0, r0, ts0, c0, d0, e0, k0, rfl⟩ := fds_row hk
    obtain ⟨x1, t1, ts1, c1, d1, k1, rfl⟩ := fds_node k0
    obtain rfl := fds_nil k1
    simp only [sizes, sizes_append] at hz hm
    exact f15_155 P B be bn bl bf few sz hW g s v w a0 n0 m0 r0 c0 d0 e0 x1 t1 c1 d1 (by omega) (by omega) h1 he hC hP hB
   ·cases hf
end Go.Proofs.YtabeokminikfdaaGreat
