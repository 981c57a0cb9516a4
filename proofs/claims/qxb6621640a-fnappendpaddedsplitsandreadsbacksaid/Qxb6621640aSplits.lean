/-
  CONTRACTS: the bound (8), zzDivPow10 (11), zzReadDigits (13). THE PLAIN LAWS: a padded number splits; it reads back.
-/
import Derived.Test.Qxb6621640aOrder
namespace Go.Proofs.Qxb6621640a
open Go.RowKit
set_option linter.unusedSimpArgs false
set_option linter.unusedVariables false

theorem bytes8_yes (a : Option Addr) (n c : Nat) (v w1 w2 : Int) (w : World) (hn : n ≤ 1048576) :
    Calls Try.prog 8 #[.slice a n c, .int .u64 v, .int .i64 w1, .int .i64 w2] w fun e w' => e = .returned (.bool true) ∧ w' = w := by
  have h1 : ¬ (1048576 : Int) < (n : Int) := by omega
  go_enter Try.func8, Try.ntmps8
  go_wp2
  go_ret
  exact ⟨rfl, rfl⟩

theorem bytes8_no (a : Option Addr) (n c : Nat) (v w1 w2 : Int) (w : World) (hn : 1048576 < n) :
    Calls Try.prog 8 #[.slice a n c, .int .u64 v, .int .i64 w1, .int .i64 w2] w fun e w' => e = .returned (.bool false) ∧ w' = w := by
  have h1 : (1048576 : Int) < (n : Int) := by omega
  go_enter Try.func8, Try.ntmps8
  go_wp2
  go_ret
  exact ⟨rfl, rfl⟩

theorem dv_20 (v : Int) (h0 : 0 ≤ v) (h : v ≤ 18446744073709551615) : dv v 20 = 0 := by
  have e : dv v 20 = v / p10 20 := rfl
  rw [e, p10_20]; omega

set_option maxHeartbeats 400000 in
theorem div_any (v : Int) (m : Nat) (w : World) (h0 : 0 ≤ v) (h : v ≤ 18446744073709551615) (hm : m ≤ 20) : Calls Try.prog 11 #[.int .u64 v, .int .i64 (m : Int)] w fun e w' => e = .returned (.int .u64 (dv v m)) ∧ w' = w := by
  by_cases hm0 : m = 0
  · subst hm0
    have H : Hid (dv v 0 = v) := dv_zero v
    go_enter Try.func11, Try.ntmps11
    go_wp2
    go_ret
    exact ⟨by rw [H.out]; rfl, rfl⟩
  · by_cases hm20 : m = 20
    · subst hm20
      have H : Hid (dv v 20 = 0) := dv_20 v h0 h
      go_enter Try.func11, Try.ntmps11
      go_wp2
      go_ret
      exact ⟨by rw [H.out]; rfl, rfl⟩
    · have h1 : ¬ (m : Int) ≤ 0 := by omega
      have h2 : ¬ (20 : Int) ≤ (m : Int) := by omega
      have hp := p10_pos m
      have H : Hid (dv v m = v / p10 m) := rfl
      have hd := dv_bd v m h0 h
      rw [H.out] at hd
      go_enter Try.func11, Try.ntmps11
      go_wp2_with fail
      refine (pow_any m _ (by omega)).mono ?_
      rintro e w1 ⟨rfl, rfl⟩
      generalize p10 m = x at *
      go_wp2
      go_ret
      exact ⟨by rw [H.out]; rfl, rfl⟩

theorem mod_int (v wd : Int) (w : World) (h0 : 0 ≤ v) (h : v ≤ 18446744073709551615) (hw0 : 0 ≤ wd) (hm : wd ≤ 20) : Calls Try.prog 12 #[.int .u64 v, .int .i64 wd] w fun e w' => e = .returned (.int .u64 (mp v wd.toNat)) ∧ w' = w := by
  obtain ⟨m, rfl⟩ := Int.eq_ofNat_of_zero_le hw0
  rw [Int.toNat_natCast]
  exact mod_any v m w h0 h (by omega)

/-! ### the plain laws -/
theorem dv_dv (v : Int) (i j : Nat) : dv (dv v i) j = dv v (i + j) := by
  induction j with
  | zero => rw [dv_zero, Nat.add_zero]
  | succ j ih => rw [dv_succ, ih, ← Nat.add_assoc, dv_succ]

theorem dv_mul_add (q r : Int) (j d : Nat) : dv (q * p10 (j + (d + 1)) + r) j % 10 = dv r j % 10 := by
  have e : p10 (j + (d + 1)) = p10 j * (p10 d * 10) := by
    unfold p10
    rw [Int.pow_add, Int.pow_succ]
  have hp := p10_pos j
  have e2 : dv (q * p10 (j + (d + 1)) + r) j = q * (p10 d * 10) + dv r j := by
    show (q * p10 (j + (d + 1)) + r) / p10 j = q * (p10 d * 10) + r / p10 j
    rw [e, show q * (p10 j * (p10 d * 10)) + r = r + p10 j * (q * (p10 d * 10)) by rw [Int.add_comm, ← Int.mul_assoc, ← Int.mul_assoc, Int.mul_comm q (p10 j), Int.mul_assoc, Int.mul_assoc],
      Int.add_mul_ediv_left _ _ (by omega), Int.add_comm]
  rw [e2, ← Int.mul_assoc]
  generalize q * p10 d = x
  omega

theorem dv_mp (v : Int) (m j : Nat) (h : j < m) : dv (mp v m) j % 10 = dv v j % 10 := by
  have e : v = (v / p10 m) * p10 m + mp v m := by
    unfold mp
    rw [Int.mul_comm]
    exact (Int.mul_ediv_add_emod v (p10 m)).symm
  obtain ⟨d, rfl⟩ : ∃ d, m = j + (d + 1) := ⟨m - j - 1, by omega⟩
  have h2 := dv_mul_add (v / p10 (j + (d + 1))) (mp v (j + (d + 1))) j d
  rw [← e] at h2
  exact h2.symm

theorem pad_congr (x y : Int) (m : Nat) (h : ∀ j, j < m → dv x j % 10 = dv y j % 10) : pad x m = pad y m := by
  induction m with
  | zero => rfl
  | succ m ih => rw [pad, pad, h m (Nat.lt_succ_self m), ih (fun j hj => h j (by omega))]

theorem pad_split (v : Int) (m1 m2 : Nat) : pad v (m1 + m2) = pad (dv v m2) m1 ++ pad (mp v m2) m2 := by
  induction m1 with
  | zero => rw [Nat.zero_add]; exact pad_congr _ _ _ (fun j hj => (dv_mp v m2 j hj).symm)
  | succ m1 ih =>
    rw [show m1 + 1 + m2 = (m1 + m2) + 1 by omega, pad, pad, ih, dv_dv, Nat.add_comm m2 m1]
    rfl

theorem pad_getD (v : Int) (m k : Nat) (h : k < m) : (pad v m).getD k 0 = 48 + dv v (m - 1 - k) % 10 := by
  induction m generalizing k with
  | zero => omega
  | succ m ih =>
    rw [pad]
    cases k with
    | zero => simp
    | succ k =>
      rw [List.getD_cons_succ, ih k (by omega)]
      rw [show m - 1 - k = m + 1 - 1 - (k + 1) by omega]

/-- one step of the reading: the value of the first k digits -/
theorem read_step (v : Int) (m k : Nat) (h : k < m) : dv (mp v m) (m - (k + 1)) = dv (mp v m) (m - k) * 10 + dv v (m - 1 - k) % 10 := by
  have e1 : dv (mp v m) (m - k) = dv (mp v m) (m - (k + 1)) / 10 := by
    rw [← dv_succ, show m - (k + 1) + 1 = m - k by omega]
  have e2 := dv_mp v m (m - 1 - k) (by omega)
  rw [e1, ← e2, show m - 1 - k = m - (k + 1) by omega]
  omega

theorem dv_mp_self (v : Int) (m : Nat) : dv (mp v m) m = 0 := by
  have h := mp_bd v m
  show mp v m / p10 m = 0
  exact Int.ediv_eq_zero_of_lt h.1 h.2

theorem mp_le (v : Int) (m : Nat) (h0 : 0 ≤ v) : mp v m ≤ v := by
  unfold mp
  have hp := p10_pos m
  have h1 := Int.emod_def v (p10 m)
  have h2 : 0 ≤ p10 m * (v / p10 m) := Int.mul_nonneg (by omega) (Int.ediv_nonneg h0 (by omega))
  omega

end Go.Proofs.Qxb6621640a
