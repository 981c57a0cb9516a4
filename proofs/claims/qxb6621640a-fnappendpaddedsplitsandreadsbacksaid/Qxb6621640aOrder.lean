/-
  CONTRACTS: zzPow10 (22), zzModPow10 (12), zzCompareBytes (15). THE PLAIN LAW: fixed-width text sorts as its numbers do.
-/
import Derived.Test.Qxb6621640aPad
import Derived.Test.Qxb6621640aU128
import Derived.Deep.QuietTactic
import Derived.BigQuiet
namespace Go.Proofs.Qxb6621640a
open Go.RowKit
set_option linter.unusedSimpArgs false
set_option linter.unusedVariables false

def p10 (k : Nat) : Int := 10 ^ k
def mp (v : Int) (m : Nat) : Int := v % p10 m

theorem p10_zero : p10 0 = 1 := rfl
theorem p10_succ (k : Nat) : p10 (k + 1) = p10 k * 10 := by unfold p10; rw [Int.pow_succ]
theorem p10_pos (k : Nat) : 0 < p10 k := by
  induction k with
  | zero => decide
  | succ k ih => rw [p10_succ]; omega
theorem p10_mono (k : Nat) : ∀ d, p10 k ≤ p10 (k + d) := by
  intro d
  induction d with
  | zero => exact Int.le_refl _
  | succ d ih => have := p10_pos (k + d); rw [← Nat.add_assoc, p10_succ]; omega
theorem p10_19 : p10 19 = 10000000000000000000 := by decide
theorem p10_20 : p10 20 = 100000000000000000000 := by decide
theorem p10_le (k : Nat) (h : k ≤ 19) : p10 k ≤ 10000000000000000000 := by
  have := p10_mono k (19 - k)
  rw [show k + (19 - k) = 19 by omega, p10_19] at this
  exact this

set_option maxHeartbeats 400000 in
theorem pow_any (n : Nat) (w : World) (hn : n ≤ 19) : Calls Try.prog 22 #[.int .i64 (n : Int)] w fun e w' => e = .returned (.int .u64 (p10 n)) ∧ w' = w := by
  go_enter Try.func22, Try.ntmps22
  go_wp2
  go_loop [3, 4] (fun p i => ∃ k : Nat, k ≤ n ∧ i = .int .i64 k ∧ p = .int .u64 (p10 k)) (fun _ i => n - (intOf i).toNat)
  case atStart => exact ⟨0, Nat.zero_le _, rfl, rfl⟩
  case round =>
    obtain ⟨k, hk, rfl, rfl⟩ := hrel
    have hp := p10_pos k
    by_cases hlt : k < n
    · have hb := p10_le (k + 1) (by omega)
      have HS : Hid (p10 (k + 1) = p10 k * 10) := p10_succ k
      rw [p10_succ] at hb
      generalize p10 k = x at *
      have h19 : (k : Int) < 19 := by omega
      go_wp2
      go_round
      case rel => exact ⟨k + 1, by omega, by go_num, by rw [HS.out]⟩
      case measure => simp [intOf]; omega
    · have HE : Hid (k = n) := by show _ = _; omega
      have hd : decide ((k : Int) < (n : Int)) = false := by simp; omega
      go_wp2
      go_ret
      exact ⟨by rw [← HE.out]; rfl, rfl⟩

theorem mp_zero (v : Int) : mp v 0 = 0 := by simp [mp, p10_zero]
theorem mp_20 (v : Int) (h0 : 0 ≤ v) (h : v ≤ 18446744073709551615) : mp v 20 = v := by unfold mp; rw [p10_20]; omega

set_option maxHeartbeats 400000 in
theorem mod_any (v : Int) (m : Nat) (w : World) (h0 : 0 ≤ v) (h : v ≤ 18446744073709551615) (hm : m ≤ 20) : Calls Try.prog 12 #[.int .u64 v, .int .i64 (m : Int)] w fun e w' => e = .returned (.int .u64 (mp v m)) ∧ w' = w := by
  by_cases hm0 : m = 0
  · subst hm0
    have H : Hid (mp v 0 = 0) := mp_zero v
    go_enter Try.func12, Try.ntmps12
    go_wp2
    go_ret
    exact ⟨by rw [H.out]; rfl, rfl⟩
  · by_cases hm20 : m = 20
    · subst hm20
      have H : Hid (mp v 20 = v) := mp_20 v h0 h
      go_enter Try.func12, Try.ntmps12
      go_wp2
      go_ret
      exact ⟨by rw [H.out]; rfl, rfl⟩
    · have h1 : ¬ (m : Int) ≤ 0 := by omega
      have h2 : ¬ (20 : Int) ≤ (m : Int) := by omega
      have hp := p10_pos m
      have H : Hid (mp v m = v % p10 m) := rfl
      go_enter Try.func12, Try.ntmps12
      go_wp2_with fail
      refine (pow_any m _ (by omega)).mono ?_
      rintro e w1 ⟨rfl, rfl⟩
      generalize p10 m = x at *
      go_wp2
      go_ret
      exact ⟨by rw [H.out]; rfl, rfl⟩

def cmpL : List Int → List Int → Int
  | x :: xs, y :: ys => if x < y then -1 else if y < x then 1 else cmpL xs ys
  | _, _ => 0

theorem cmpL_pre (p a b : List Int) : cmpL (p ++ a) (p ++ b) = cmpL a b := by
  induction p with
  | nil => rfl
  | cons x p ih => simp [cmpL, ih]

theorem cmpL_drop (xs ys : List Int) (k : Nat) (h1 : k < xs.length) (h2 : k < ys.length) : cmpL (xs.drop k) (ys.drop k) = if xs.getD k 0 < ys.getD k 0 then -1 else if ys.getD k 0 < xs.getD k 0 then 1 else cmpL (xs.drop (k + 1)) (ys.drop (k + 1)) := by
  rw [List.drop_eq_getElem_cons h1, List.drop_eq_getElem_cons h2, cmpL]
  simp [List.getD, h1, h2]

theorem mp_succ (v : Int) (m : Nat) : mp v (m + 1) = (dv v m % 10) * p10 m + mp v m := by
  have hp := p10_pos m
  have hd : dv v m = v / p10 m := rfl
  unfold mp
  rw [p10_succ, hd]
  generalize p10 m = p at *
  have e1 : v / (p * 10) = v / p / 10 := (Int.ediv_ediv_of_nonneg (by omega)).symm
  rw [Int.emod_def v (p * 10), Int.emod_def v p, Int.emod_def (v / p) 10, e1]
  generalize v / p = q
  generalize q / 10 = r
  rw [Int.sub_mul, Int.mul_assoc p 10 r, Int.mul_comm p (10 * r), Int.mul_comm q p]
  generalize 10 * r * p = x
  generalize p * q = y
  omega

theorem mp_bd (v : Int) (m : Nat) : 0 ≤ mp v m ∧ mp v m < p10 m := by
  have h := p10_pos m
  exact ⟨Int.emod_nonneg _ (by omega), Int.emod_lt_of_pos _ h⟩

theorem cmp_pad (v1 v2 : Int) (m : Nat) : cmpL (pad v1 m) (pad v2 m) = cw (mp v1 m) (mp v2 m) := by
  induction m with
  | zero => simp [pad, cmpL, mp_zero, cw]
  | succ m ih =>
    rw [pad, pad, cmpL, mp_succ, mp_succ, ih]
    have b1 := mp_bd v1 m
    have b2 := mp_bd v2 m
    have hp := p10_pos m
    generalize mp v1 m = x at *
    generalize mp v2 m = y at *
    generalize p10 m = p at *
    have d1 : 0 ≤ dv v1 m % 10 ∧ dv v1 m % 10 < 10 := by omega
    have d2 : 0 ≤ dv v2 m % 10 ∧ dv v2 m % 10 < 10 := by omega
    generalize dv v1 m % 10 = d at *
    generalize dv v2 m % 10 = f at *
    by_cases h1 : d < f
    · have : d * p + x < f * p + y := by
        have : (d + 1) * p ≤ f * p := Int.mul_le_mul_of_nonneg_right (by omega) (by omega)
        rw [Int.add_mul] at this
        omega
      simp [cw, h1, this]
    · by_cases h2 : f < d
      · have : f * p + y < d * p + x := by
          have : (f + 1) * p ≤ d * p := Int.mul_le_mul_of_nonneg_right (by omega) (by omega)
          rw [Int.add_mul] at this
          omega
        have h3 : ¬ d * p + x < f * p + y := by omega
        simp [cw, h1, h2, this, h3]
      · obtain rfl : d = f := by omega
        simp [cw]

set_option maxHeartbeats 1000000 in
theorem compare_any (a b : Option Addr) (n c c' : Nat) (xs ys : List Int) (w : World) (h : Rd w a n xs) (h' : Rd w b n ys) (hn : n ≤ 1000000000) :
    Calls Try.prog 15 #[.slice a n c, .slice b n c'] w fun e w' => e = .returned (.int .i64 (cmpL xs ys)) ∧ ∃ q, w' = w.drewN q := by
  by_cases h0 : n = 0
  · subst h0
    have hx : xs = [] := List.eq_nil_of_length_eq_zero h.len
    have hy : ys = [] := List.eq_nil_of_length_eq_zero h'.len
    subst hx
    subst hy
    clear h h'
    go_enter Try.func15, Try.ntmps15
    go_wp2
    refine wp_loop_rounds 1 ?_
    rw [rounds_succ]
    go_wp2
    go_ret
    exact ⟨rfl, 0, rfl⟩
  · obtain ⟨ba, oa, rfl, hc⟩ := h.cel (by omega)
    obtain ⟨bb, ob, rfl, hc'⟩ := h'.cel (by omega)
    have HX : Hid (xs.length = n) := h.len
    have HY : Hid (ys.length = n) := h'.len
    clear h h'
    go_enter Try.func15, Try.ntmps15
    go_wp2
    go_loopw [6] (fun i wr => ∃ k : Nat, k ≤ n ∧ i = .int .i64 k ∧ (∃ q, wr = w.drewN q) ∧ Hid (cmpL xs ys = cmpL (xs.drop k) (ys.drop k))) (fun i _ => n - (intOf i).toNat)
    case atStart => exact ⟨0, Nat.zero_le _, rfl, ⟨0, rfl⟩, rfl⟩
    case round =>
      obtain ⟨k, hk, rfl, ⟨q, rfl⟩, HK⟩ := hrel
      by_cases hlt : k < n
      · have hcell := hc k hlt
        have hcell' := hc' k hlt
        have HS := cmpL_drop xs ys k (by rw [HX.out]; exact hlt) (by rw [HY.out]; exact hlt)
        generalize xs.getD k 0 = x at *
        generalize ys.getD k 0 = y at *
        have HS' : Hid (cmpL (xs.drop k) (ys.drop k) = if x < y then -1 else if y < x then 1 else cmpL (xs.drop (k + 1)) (ys.drop (k + 1))) := HS
        clear HS hc hc'
        have hki : (k : Int) < (n : Int) := by omega
        by_cases h1 : x < y
        · go_wp2
          go_quiet (fail)
          go_wp2
          go_ret
          exact ⟨by rw [HK.out, HS'.out, if_pos h1]; rfl, _, by rw [World.drewN_drewN]⟩
        · by_cases h2 : y < x
          · go_wp2
            go_quiet (fail)
            go_wp2
            go_quiet (fail)
            go_wp2
            go_ret
            exact ⟨by rw [HK.out, HS'.out, if_neg (by omega), if_pos h2]; rfl, _, by rw [World.drewN_drewN, World.drewN_drewN]⟩
          · go_wp2
            go_quiet (fail)
            go_wp2
            go_quiet (fail)
            go_wp2
            go_roundw
            case rel => exact ⟨k + 1, by omega, by go_num, ⟨_, rfl⟩, by rw [HK.out, HS'.out, if_neg (by omega), if_neg (by omega)]; rfl⟩
            case measure => simp [intOf]; omega
      · have HE : Hid (cmpL xs ys = 0) := by
          show _ = _
          rw [HK.out, List.drop_eq_nil_of_le (by rw [HX.out]; omega)]
          rfl
        clear hc hc'
        go_wp2
        go_ret
        exact ⟨by rw [HE.out]; rfl, _, rfl⟩

end Go.Proofs.Qxb6621640a
