/-
  CONTRACTS: cmpWord (25), u128.cmp (24), ZZU128Cmp (20), zzAdd128 (19).
-/
import Derived.Test.Qxb6621640aBase
namespace Go.Proofs.Qxb6621640a
open Go.RowKit
set_option linter.unusedSimpArgs false
set_option linter.unusedVariables false

def cw (x y : Int) : Int := if x < y then -1 else if y < x then 1 else 0

theorem cw_any (x y : Int) (w : World) : Calls Try.prog 25 #[.int .u64 x, .int .u64 y] w fun e w' => e = .returned (.int .i64 (cw x y)) ∧ w' = w := by
  by_cases h1 : x < y
  · have H : Hid (cw x y = -1) := by show _ = _; simp [cw, h1]
    go_enter Try.func25, Try.ntmps25
    go_wp2
    go_ret
    exact ⟨by rw [H.out]; rfl, rfl⟩
  · by_cases h2 : y < x
    · have H : Hid (cw x y = 1) := by show _ = _; simp [cw, h1, h2]
      go_enter Try.func25, Try.ntmps25
      go_wp2
      go_ret
      exact ⟨by rw [H.out]; rfl, rfl⟩
    · have H : Hid (cw x y = 0) := by show _ = _; simp [cw, h1, h2]
      go_enter Try.func25, Try.ntmps25
      go_wp2
      go_ret
      exact ⟨by rw [H.out]; rfl, rfl⟩

def cmp128 (xh xl yh yl : Int) : Int := if xh = yh then cw xl yl else if wrap64 xh < wrap64 yh then -1 else 1

theorem cmp_any (xh xl yh yl : Int) (w : World) : Calls Try.prog 24 #[.agg #[.int .u64 xh, .int .u64 xl], .agg #[.int .u64 yh, .int .u64 yl]] w fun e w' => e = .returned (.int .i64 (cmp128 xh xl yh yl)) ∧ Grown w w' := by
  by_cases h1 : xh = yh
  · subst h1
    have H : Hid (cmp128 xh xl xh yl = cw xl yl) := by show _ = _; simp [cmp128]
    go_enter Try.func24, Try.ntmps24
    go_wp2_with fail
    refine (cw_any _ _ _).mono ?_
    rintro e w1 ⟨rfl, rfl⟩
    go_wp2
    go_ret
    exact ⟨by rw [H.out]; rfl, ((Grown.refl _).alloc _ _).alloc _ _⟩
  · have hb : (xh != yh) = true := by simp [h1]
    by_cases h2 : wrap64 xh < wrap64 yh
    · have H : Hid (cmp128 xh xl yh yl = -1) := by show _ = _; simp [cmp128, h1, h2]
      clear h1
      go_enter Try.func24, Try.ntmps24
      go_wp2
      go_ret
      exact ⟨by rw [H.out]; rfl, ((Grown.refl _).alloc _ _).alloc _ _⟩
    · have H : Hid (cmp128 xh xl yh yl = 1) := by show _ = _; simp [cmp128, h1, h2]
      clear h1
      go_enter Try.func24, Try.ntmps24
      go_wp2
      go_ret
      exact ⟨by rw [H.out]; rfl, ((Grown.refl _).alloc _ _).alloc _ _⟩

theorem zcmp_any (xh xl yh yl : Int) (w : World) : Calls Try.prog 20 #[.int .u64 xh, .int .u64 xl, .int .u64 yh, .int .u64 yl] w fun e w' => e = .returned (.int .i64 (cmp128 xh xl yh yl)) ∧ Grown w w' := by
  go_enter Try.func20, Try.ntmps20
  go_wp2_with fail
  refine (cmp_any _ _ _ _ _).mono ?_
  rintro e w1 ⟨rfl, hg⟩
  go_wp2
  go_ret
  exact ⟨rfl, hg⟩

def val (h l : Int) : Int := (if h < 9223372036854775808 then h else h - 18446744073709551616) * 18446744073709551616 + l
def W64 (x : Int) : Prop := 0 ≤ x ∧ x ≤ 18446744073709551615

/-- what the sum of two signed 128-bit numbers is, unless it overflows -/
structure Sum (ah al bh bl h l : Int) (o : Bool) : Prop where
  hw : W64 h
  lw : W64 l
  eq : o = false → val h l = val ah al + val bh bl

theorem sum_same_carry (ah al bh bl : Int) (hah : W64 ah) (hal : W64 al) (hbh : W64 bh) (hbl : W64 bl) (hc : IntKind.u64.wrap (al + bl) < al) (hs : ah / 9223372036854775808 = bh / 9223372036854775808) :
    Sum ah al bh bl (IntKind.u64.wrap (IntKind.u64.wrap (ah + bh) + 1)) (IntKind.u64.wrap (al + bl)) (IntKind.u64.wrap (IntKind.u64.wrap (ah + bh) + 1) / 9223372036854775808 != ah / 9223372036854775808) := by
  unfold W64 at *
  simp only [IntKind.wrap_u64] at *
  refine ⟨by unfold W64; omega, by unfold W64; omega, fun ho => ?_⟩
  simp only [bne_eq_false_iff_eq] at ho
  unfold val
  split <;> split <;> split <;> omega

theorem sum_same_none (ah al bh bl : Int) (hah : W64 ah) (hal : W64 al) (hbh : W64 bh) (hbl : W64 bl) (hc : al ≤ IntKind.u64.wrap (al + bl)) (hs : ah / 9223372036854775808 = bh / 9223372036854775808) :
    Sum ah al bh bl (IntKind.u64.wrap (IntKind.u64.wrap (ah + bh))) (IntKind.u64.wrap (al + bl)) (IntKind.u64.wrap (IntKind.u64.wrap (ah + bh)) / 9223372036854775808 != ah / 9223372036854775808) := by
  unfold W64 at *
  simp only [IntKind.wrap_u64] at *
  refine ⟨by unfold W64; omega, by unfold W64; omega, fun ho => ?_⟩
  simp only [bne_eq_false_iff_eq] at ho
  unfold val
  split <;> split <;> split <;> omega

theorem sum_diff_carry (ah al bh bl : Int) (hah : W64 ah) (hal : W64 al) (hbh : W64 bh) (hbl : W64 bl) (hc : IntKind.u64.wrap (al + bl) < al) (hs : ¬ ah / 9223372036854775808 = bh / 9223372036854775808) :
    Sum ah al bh bl (IntKind.u64.wrap (IntKind.u64.wrap (ah + bh) + 1)) (IntKind.u64.wrap (al + bl)) false := by
  unfold W64 at *
  simp only [IntKind.wrap_u64] at *
  refine ⟨by unfold W64; omega, by unfold W64; omega, fun ho => ?_⟩
  unfold val
  split <;> split <;> split <;> omega

theorem sum_diff_none (ah al bh bl : Int) (hah : W64 ah) (hal : W64 al) (hbh : W64 bh) (hbl : W64 bl) (hc : al ≤ IntKind.u64.wrap (al + bl)) (hs : ¬ ah / 9223372036854775808 = bh / 9223372036854775808) :
    Sum ah al bh bl (IntKind.u64.wrap (IntKind.u64.wrap (ah + bh))) (IntKind.u64.wrap (al + bl)) false := by
  unfold W64 at *
  simp only [IntKind.wrap_u64] at *
  refine ⟨by unfold W64; omega, by unfold W64; omega, fun ho => ?_⟩
  unfold val
  split <;> split <;> split <;> omega

set_option maxHeartbeats 1000000 in
theorem add_any (ah al bh bl : Int) (w : World) (hah : W64 ah) (hal : W64 al) (hbh : W64 bh) (hbl : W64 bl) : Calls Try.prog 19 #[.int .u64 ah, .int .u64 al, .int .u64 bh, .int .u64 bl] w fun e w' => ∃ h l o, e = .returned (.tuple #[.int .u64 h, .int .u64 l, .bool o]) ∧ w' = w ∧ Sum ah al bh bl h l o := by
  have a0 : 0 ≤ ah := hah.1
  have a1 : 0 ≤ bh := hbh.1
  by_cases hc : IntKind.u64.wrap (al + bl) < al
  · by_cases hs : ah / 9223372036854775808 = bh / 9223372036854775808
    · have H : Hid (_) := sum_same_carry ah al bh bl hah hal hbh hbl hc hs
      have hs' : (ah / 9223372036854775808 == bh / 9223372036854775808) = true := by simp [hs]
      clear hs
      go_enter Try.func19, Try.ntmps19
      go_wp2
      go_ret3
      exact ⟨_, _, _, rfl, rfl, H.out⟩
    · have H : Hid (_) := sum_diff_carry ah al bh bl hah hal hbh hbl hc hs
      have hs' : (ah / 9223372036854775808 == bh / 9223372036854775808) = false := by simp [hs]
      clear hs
      go_enter Try.func19, Try.ntmps19
      go_wp2
      go_ret3
      exact ⟨_, _, _, rfl, rfl, H.out⟩
  · have hc' : al ≤ IntKind.u64.wrap (al + bl) := by omega
    clear hc
    by_cases hs : ah / 9223372036854775808 = bh / 9223372036854775808
    · have H : Hid (_) := sum_same_none ah al bh bl hah hal hbh hbl hc' hs
      have hs' : (ah / 9223372036854775808 == bh / 9223372036854775808) = true := by simp [hs]
      clear hs
      go_enter Try.func19, Try.ntmps19
      go_wp2
      go_ret3
      exact ⟨_, _, _, rfl, rfl, H.out⟩
    · have H : Hid (_) := sum_diff_none ah al bh bl hah hal hbh hbl hc' hs
      have hs' : (ah / 9223372036854775808 == bh / 9223372036854775808) = false := by simp [hs]
      clear hs
      go_enter Try.func19, Try.ntmps19
      go_wp2
      go_ret3
      exact ⟨_, _, _, rfl, rfl, H.out⟩

end Go.Proofs.Qxb6621640a
