/-
  THE WALK of FnU128CmpShiftInvariant (7).
-/
import Derived.Test.Qxb6621640aU128
namespace Go.Proofs.Qxb6621640a
open Go.RowKit
set_option linter.unusedSimpArgs false
set_option linter.unusedVariables false

theorem cmp_val (xh xl yh yl : Int) (h1 : W64 xh) (h2 : W64 xl) (h3 : W64 yh) (h4 : W64 yl) : cmp128 xh xl yh yl = cw (val xh xl) (val yh yl) := by
  unfold W64 at *
  unfold cmp128 cw val wrap64
  split <;> split <;> split <;> (try split) <;> (try split) <;> (try split) <;> omega

def KS (kh kl s : Int) : Prop :=
  ((kh != 0) = false ∧ (kl != 0) = false ∧ s = 0) ∨ ((kh != 0) = false ∧ (kl != 0) = true ∧ (kh / 9223372036854775808 == 1) = false ∧ s = 1) ∨
  ((kh != 0) = true ∧ (kh / 9223372036854775808 == 1) = true ∧ s = -1) ∨ ((kh != 0) = true ∧ (kh / 9223372036854775808 == 1) = false ∧ s = 1)

def XC (xh xl yh yl c : Int) : Prop :=
  ((xh == yh) = false ∧ c = -1) ∨ ((xh == yh) = false ∧ c = 1) ∨ ((xh == yh) = true ∧ (xl == yl) = false ∧ c = -1) ∨ ((xh == yh) = true ∧ (xl == yl) = false ∧ c = 1) ∨ ((xh == yh) = true ∧ (xl == yl) = true ∧ c = 0)

theorem ks_of (kh kl : Int) (h1 : W64 kh) (h2 : W64 kl) : KS kh kl (cw (val kh kl) 0) := by
  unfold W64 at *
  unfold KS
  simp only [bne_eq_false_iff_eq, bne_iff_ne, ne_eq, beq_iff_eq, beq_eq_false_iff_ne]
  unfold cw val
  split <;> split <;> (try split) <;> omega

theorem xc_of (xh xl yh yl : Int) (h1 : W64 xh) (h2 : W64 xl) (h3 : W64 yh) (h4 : W64 yl) : XC xh xl yh yl (cw (val xh xl) (val yh yl)) := by
  unfold W64 at *
  unfold XC
  simp only [bne_eq_false_iff_eq, bne_iff_ne, ne_eq, beq_iff_eq, beq_eq_false_iff_ne]
  unfold cw val
  split <;> split <;> split <;> (try split) <;> omega

theorem cw_shift (x y k : Int) : cw (x + k) (y + k) = cw x y := by unfold cw; split <;> split <;> (try split) <;> (try split) <;> omega
theorem cw_up (x k : Int) : cw (x + k) x = cw k 0 := by unfold cw; split <;> split <;> (try split) <;> (try split) <;> omega
theorem cw_down (y k : Int) : cw y (y + k) = -cw k 0 := by unfold cw; split <;> split <;> (try split) <;> (try split) <;> omega

theorem grown_trans3 {a b c : World} (h : Grown a b) (k : Grown b c) : Grown a c :=
  ⟨World.keptBut_trans h.1 k.1, fun p => (k.2.1 p).trans (h.2.1 p), Nat.le_trans h.2.2 k.2.2⟩

set_option maxHeartbeats 4000000 in
theorem u_any (xh xl yh yl kh kl : Int) (w : World) (h1 : W64 xh) (h2 : W64 xl) (h3 : W64 yh) (h4 : W64 yl) (h5 : W64 kh) (h6 : W64 kl) :
    Calls Try.prog 7 #[.int .u64 xh, .int .u64 xl, .int .u64 yh, .int .u64 yl, .int .u64 kh, .int .u64 kl] w fun e w' => e = .returned (.bool true) ∧ Grown w w' := by
  have p5 : 0 ≤ kh := h5.1
  go_enter Try.func7, Try.ntmps7
  go_wp2_with fail
  refine (add_any _ _ _ _ _ h1 h2 h5 h6).mono ?_
  rintro e w1 ⟨xh', xl', o1, rfl, rfl, HX⟩
  go_wp2_with fail
  refine (add_any _ _ _ _ _ h3 h4 h5 h6).mono ?_
  rintro e w2 ⟨yh', yl', o2, rfl, rfl, HY⟩
  cases o1
  · cases o2
    · have eX := HX.eq rfl
      have eY := HY.eq rfl
      have hc := cmp_val xh xl yh yl h1 h2 h3 h4
      have hcs := cmp_val xh' xl' yh' yl' HX.hw HX.lw HY.hw HY.lw
      have hk1 := cmp_val xh' xl' xh xl HX.hw HX.lw h1 h2
      have hk2 := cmp_val yh yl yh' yl' h3 h4 HY.hw HY.lw
      rw [eX, eY, cw_shift] at hcs
      rw [eX, cw_up] at hk1
      rw [eY, cw_down] at hk2
      have K := ks_of kh kl h5 h6
      have C := xc_of xh xl yh yl h1 h2 h3 h4
      generalize cw (val kh kl) 0 = s at *
      generalize cw (val xh xl) (val yh yl) = c at *
      clear eX eY HX HY h1 h2 h3 h4 h5 h6
      rcases K with ⟨k1, k2, rfl⟩ | ⟨k1, k2, k3, rfl⟩ | ⟨k1, k2, rfl⟩ | ⟨k1, k2, rfl⟩ <;> rcases C with ⟨c1, rfl⟩ | ⟨c1, rfl⟩ | ⟨c1, c2, rfl⟩ | ⟨c1, c2, rfl⟩ | ⟨c1, c2, rfl⟩
      all_goals
        go_wp2_with fail
        refine (zcmp_any _ _ _ _ _).mono ?_
        rintro e v1 ⟨rfl, g1⟩
        have G1 : Hid (Grown w2 v1) := g1
        clear g1
        go_wp2_with fail
        refine (zcmp_any _ _ _ _ _).mono ?_
        rintro e v2 ⟨rfl, g2⟩
        have G2 : Hid (Grown v1 v2) := g2
        clear g2
        go_wp2_with fail
        refine (zcmp_any _ _ _ _ _).mono ?_
        rintro e v3 ⟨rfl, g3⟩
        have G3 : Hid (Grown v2 v3) := g3
        clear g3
        go_wp2_with fail
        refine (zcmp_any _ _ _ _ _).mono ?_
        rintro e v4 ⟨rfl, g4⟩
        have G4 : Hid (Grown v3 v4) := g4
        clear g4
        go_wp2
        go_ret
        exact ⟨rfl, grown_trans3 (grown_trans3 (grown_trans3 G1.out G2.out) G3.out) G4.out⟩
    · clear HX HY
      go_wp2
      go_ret
      exact ⟨rfl, Grown.refl _⟩
  · clear HX HY
    go_wp2
    go_ret
    exact ⟨rfl, Grown.refl _⟩

end Go.Proofs.Qxb6621640a
