/-
  THE WALK of FnIsDigitsJoinAndPadded (5), and the contract of its bound (16).
-/
import Derived.Test.Qxb6621640aPad
import Derived.Deep.RegionWith
namespace Go.Proofs.Qxb6621640a
open Go.RowKit
set_option linter.unusedSimpArgs false
set_option linter.unusedVariables false

theorem bytes16_yes (a b : Option Addr) (n c n' c' : Nat) (v wd : Int) (w : World) (hn : n + n' ≤ 1048576) :
    Calls Try.prog 16 #[.slice a n c, .slice b n' c', .int .u64 v, .int .i64 wd] w fun e w' => e = .returned (.bool true) ∧ w' = w := by
  have h1 : ¬ (1048576 : Int) < (n : Int) := by omega
  have h2 : ¬ (1048576 : Int) < (n' : Int) := by omega
  have h3 : ¬ (1048576 : Int) < (n : Int) + (n' : Int) := by omega
  go_enter Try.func16, Try.ntmps16
  go_wp2
  go_ret
  exact ⟨rfl, rfl⟩

theorem bytes16_no (a b : Option Addr) (n c n' c' : Nat) (v wd : Int) (w : World) (hn : 1048576 < n ∨ 1048576 < n' ∨ 1048576 < n + n') :
    Calls Try.prog 16 #[.slice a n c, .slice b n' c', .int .u64 v, .int .i64 wd] w fun e w' => e = .returned (.bool false) ∧ w' = w := by
  by_cases h1 : 1048576 < n
  · have h1' : (1048576 : Int) < (n : Int) := by omega
    clear hn
    go_enter Try.func16, Try.ntmps16
    go_wp2
    go_ret
    exact ⟨rfl, rfl⟩
  · by_cases h2 : 1048576 < n'
    · have h1' : ¬ (1048576 : Int) < (n : Int) := by omega
      have h2' : (1048576 : Int) < (n' : Int) := by omega
      clear hn
      go_enter Try.func16, Try.ntmps16
      go_wp2
      go_ret
      exact ⟨rfl, rfl⟩
    · have h1' : ¬ (1048576 : Int) < (n : Int) := by omega
      have h2' : ¬ (1048576 : Int) < (n' : Int) := by omega
      have h3' : (1048576 : Int) < (n : Int) + (n' : Int) := by omega
      clear hn
      go_enter Try.func16, Try.ntmps16
      go_wp2
      go_ret
      exact ⟨rfl, rfl⟩

theorem digs_nil : digs [] = false := rfl

theorem digs_append (xs ys : List Int) : digs (xs ++ ys) = ((((xs.length : Int) == 0) || digs xs) && (((ys.length : Int) == 0) || digs ys) && decide ((0 : Int) < (xs.length : Int) + (ys.length : Int))) := by
  unfold digs
  cases xs with
  | nil => cases ys with
    | nil => rfl
    | cons y r =>
      have h1 : (((y :: r).length : Int) == 0) = false := by simp; omega
      have h2 : decide ((0 : Int) < (([] : List Int).length : Int) + ((y :: r).length : Int)) = true := by simp
      rw [h1, h2]; simp
  | cons x s => cases ys with
    | nil =>
      have h1 : (((x :: s).length : Int) == 0) = false := by simp; omega
      have h2 : decide ((0 : Int) < ((x :: s).length : Int) + (([] : List Int).length : Int)) = true := by simp
      rw [h1, h2]; simp
    | cons y r =>
      have h1 : (((y :: r).length : Int) == 0) = false := by simp; omega
      have h3 : (((x :: s).length : Int) == 0) = false := by simp; omega
      have h2 : decide ((0 : Int) < ((x :: s).length : Int) + ((y :: r).length : Int)) = true := by simp; omega
      rw [h1, h2, h3]; simp [List.all_append, Bool.and_assoc]

theorem digs_pad (v : Int) (m : Nat) : digs (pad v m) = decide ((0 : Int) < (m : Int)) := by
  unfold digs
  rw [pad_dg]
  cases m with
  | zero => rfl
  | succ m => simp [pad]

theorem sum_pos (n n' : Nat) : decide ((0 : Int) < (n : Int) + (n' : Int)) = !(((n : Int) == 0) && ((n' : Int) == 0)) := by
  rw [Bool.eq_iff_iff]; simp; omega

theorem m_zero (m : Nat) : ((m : Int) == 0) = !decide ((0 : Int) < (m : Int)) := by
  rw [Bool.eq_iff_iff]; simp

theorem acases (n : Nat) (xs : List Int) (h : xs.length = n) : (((n : Int) == 0) = true ∧ digs xs = false) ∨ (((n : Int) == 0) = false ∧ digs xs = true) ∨ (((n : Int) == 0) = false ∧ digs xs = false) := by
  cases hn : ((n : Int) == 0)
  · cases digs xs <;> simp
  · have : n = 0 := by simp at hn; omega
    have hx : xs = [] := List.eq_nil_of_length_eq_zero (by omega)
    subst hx
    exact .inl ⟨rfl, rfl⟩

set_option maxHeartbeats 4000000 in
theorem jp_main (a b : Option Addr) (n cap n' cap' : Nat) (xs ys : List Int) (v : Int) (m : Nat) (w : World) (h : Rd w a n xs) (hnone : a = none → n = 0 ∧ cap = 0) (h' : Rd w b n' ys) (hnone' : b = none → n' = 0 ∧ cap' = 0)
    (hn : n ≤ 65536) (hn' : n' ≤ 65536) (hm : m ≤ 20) (hv0 : 0 ≤ v) (hv : v ≤ 18446744073709551615) :
    Calls Try.prog 5 #[.slice a n cap, .slice b n' cap', .int .u64 v, .int .i64 (m : Int)] w fun e w' => e = .returned (.bool true) ∧ Below w.heap.size w w' := by
  obtain ⟨i0, hi0, hz0, hz1, hz2⟩ := info_parts info5
  have hA := acases n xs h.len
  have hB := acases n' ys h'.len
  have hJ := digs_append xs ys
  rw [h.len, h'.len] at hJ
  have hP := digs_append xs (pad v m)
  rw [h.len, pad_length, digs_pad] at hP
  have hE : digs (pad v m) = decide ((0 : Int) < (m : Int)) := digs_pad v m
  have h1 : ¬ (65536 : Int) < (n : Int) := by omega
  have h2 : ¬ (65536 : Int) < (n' : Int) := by omega
  have h3 : ¬ (20 : Int) < (m : Int) := by omega
  have h4 : ¬ (m : Int) < 0 := by omega
  have hS := sum_pos n n'
  have hS2 := sum_pos n m
  rw [m_zero m] at hS2 hP
  have hM : decide ((0 : Int) < (m : Int)) = true ∨ decide ((0 : Int) < (m : Int)) = false := by cases decide ((0 : Int) < (m : Int)) <;> simp
  rcases hA with ⟨hA0, hdx⟩ | ⟨hA0, hdx⟩ | ⟨hA0, hdx⟩ <;> rcases hB with ⟨hB0, hdy⟩ | ⟨hB0, hdy⟩ | ⟨hB0, hdy⟩ <;> rcases hM with hM | hM
  all_goals
    have hM2 : decide (0 < m) = decide ((0 : Int) < (m : Int)) := by rw [Bool.eq_iff_iff]; simp
    rw [hM] at hM2
    rw [hA0, hB0] at hS
    rw [hA0, hM] at hS2
    rw [hA0, hB0, hdx, hdy, hS] at hJ
    rw [hM] at hE
    rw [hM, hA0, hdx, hS2] at hP
    simp only [Bool.true_and, Bool.and_true, Bool.false_or, Bool.or_true, Bool.true_or, Bool.or_false, Bool.false_and, Bool.and_false, Bool.not_true, Bool.not_false] at hJ hS hS2 hP
    go_enter Try.func5, Try.ntmps5
    go_wp2_with fail
    refine (bytes16_yes _ _ _ _ _ _ _ _ _ (by omega)).mono ?_
    rintro e w' ⟨rfl, rfl⟩
    go_wp2_with fail
    refine (clone_any _ _ _ xs _ h hnone (by omega)).mono ?_
    rintro e w1 ⟨a1, c1, rfl, hown, hb⟩
    have h'1 := h'.later hb
    have hc1 := own_cap hown
    have HN1 : Hid (a1 = none → n = 0 ∧ c1 = 0) := own_none hown
    have HNA : Hid (∀ b o s, a1 = some ⟨b, o, s⟩ → b < w1.heap.size) := fun b o s e => (hown.lt b (by rw [e]; rfl)).2
    have HR1 : Hid (Rd w1 a1 n xs) := Rd.of_own hown
    have HB1 : Hid (Below w'.heap.size w' w1) := hb
    have hsz1 : w'.heap.size ≤ w1.heap.size := hb.size
    clear hown hb h hnone h'
    go_wp2_with fail
    refine (clone_any _ _ _ ys _ h'1 hnone' (by omega)).mono ?_
    rintro e w2 ⟨b2, d2, rfl, hown, hb⟩
    have hc2 := own_cap hown
    have HN2 : Hid (b2 = none → n' = 0 ∧ d2 = 0) := own_none hown
    have HNE : Hid (∀ b o s, b2 = some ⟨b, o, s⟩ → some b ≠ some w2.heap.size) := fun b o s e h => by
      have := (hown.lt b (by rw [e]; rfl)).2
      simp at h
      omega
    have HRb2 : Hid (Rd w2 b2 n' ys) := Rd.of_own hown
    have HRa2 : Hid (Rd w2 a1 n xs) := HR1.out.later hb
    have HB2 : Hid (Below w'.heap.size w' w2) := HB1.out.trans (hb.mono hsz1)
    have hsz2 : w1.heap.size ≤ w2.heap.size := hb.size
    clear hown hb h'1 hnone'
    go_wp2_with (at_make; go_must (refine wpList_make_own _ rfl _ _ 22 rfl w'.heap.size 5 i0 (.int .u8 0) 1 Try.underlying22 hi0 hz0 hz1 .i64 .i64 _ (n + n') rfl rfl (by omega) (by rw [hz2]; omega) (by unfold maxLen; omega) (by omega) ?_))
    intro w3 hown3 hgrow3
    obtain ⟨X, hX⟩ : ∃ X, X = xs.map (Value.int .u8) := ⟨_, rfl⟩
    obtain ⟨Y, hY⟩ : ∃ Y, Y = ys.map (Value.int .u8) := ⟨_, rfl⟩
    have HX : Hid (X = xs.map (Value.int .u8)) := hX
    have HY : Hid (Y = ys.map (Value.int .u8)) := hY
    have HXl : Hid (X.length = n * 1) := by show _ = _; rw [hX, List.length_map, HRa2.out.len, Nat.mul_one]
    have HYl : Hid (Y.length = n' * 1) := by show _ = _; rw [hY, List.length_map, HRb2.out.len, Nat.mul_one]
    have HRa3 : Hid (Rd w3 a1 n xs) := HRa2.out.grown hgrow3 (fun _ _ _ _ h => by cases h)
    have HRb3 : Hid (Rd w3 b2 n' ys) := HRb2.out.grown hgrow3 (fun _ _ _ _ h => by cases h)
    have HB3 : Hid (Below w'.heap.size w' w3) := HB2.out.grown hgrow3 (by omega) (fun k hk => by cases hk)
    have HO3 : Hid (w3.ownsRow w'.heap.size 5 1 (Value.slice (some ⟨w2.heap.size, 0, none⟩) 0 (n + n')) 0 []) := hown3
    have hsz3 : w2.heap.size < w3.heap.size := (hown3.lt w2.heap.size rfl).2
    clear hX hY hown3 hgrow3
    go_wp2_with (at_builtin; go_must (refine wpList_append_fits_any _ rfl (.tmp 38) (.tmp 39) 22 rfl w'.heap.size 5 i0 1 Try.underlying22 hi0 hz1 w2.heap.size 0 (n + n') [] rfl HO3.out a1 n c1 X rfl HXl.out HN1.out (by rw [HX.out]; intro ad e; subst e; exact fun j u hu => cells_of_rd HRa3.out (by have := (List.getElem?_eq_some_iff.1 hu).1; omega) j u hu) (by rw [HX.out]; exact ints_oneCell _ _) (by omega) ?_))
    intro w4 hown4 hgrow4
    have HNE2 : Hid (∀ b o s, a1 = some ⟨b, o, s⟩ → some b ≠ some w2.heap.size) := fun b o s e h => by
      have := HNA.out b o s e
      simp at h
      omega
    have HRa4 : Hid (Rd w4 a1 n xs) := HRa3.out.grown hgrow4 HNE2.out
    have HRb4 : Hid (Rd w4 b2 n' ys) := HRb3.out.grown hgrow4 HNE.out
    have HB4 : Hid (Below w'.heap.size w' w4) := HB3.out.grown hgrow4 (by omega) (fun k hk => by simp at hk; omega)
    have HO4 : Hid (w4.ownsRow w'.heap.size 5 1 (Value.slice (some ⟨w2.heap.size, 0, none⟩) n (n + n')) n X) := hown4
    have hsz4 : w3.heap.size ≤ w4.heap.size := hgrow4.size
    clear hown4 hgrow4
    go_wp2_with (at_builtin; go_must (refine wpList_append_fits_any _ rfl (.tmp 41) (.tmp 42) 22 rfl w'.heap.size 5 i0 1 Try.underlying22 hi0 hz1 w2.heap.size n (n + n') X rfl HO4.out b2 n' d2 Y rfl HYl.out HN2.out (by rw [HY.out]; intro ad e; subst e; exact fun j u hu => cells_of_rd HRb4.out (by have := (List.getElem?_eq_some_iff.1 hu).1; omega) j u hu) (by rw [HY.out]; exact ints_oneCell _ _) (by omega) ?_))
    intro w5 hown5 hgrow5
    have HRa5 : Hid (Rd w5 a1 n xs) := HRa4.out.grown hgrow5 HNE2.out
    have HRb5 : Hid (Rd w5 b2 n' ys) := HRb4.out.grown hgrow5 HNE.out
    have HB5 : Hid (Below w'.heap.size w' w5) := HB4.out.grown hgrow5 (by omega) (fun k hk => by simp at hk; omega)
    have HRJ : Hid (Rd w5 (some ⟨w2.heap.size, 0, none⟩) (n + n') (xs ++ ys)) := by
      have h := hown5
      rw [HX.out, HY.out, ← List.map_append] at h
      exact Rd.of_own h
    have hsz5 : w4.heap.size ≤ w5.heap.size := hgrow5.size
    clear hown5 hgrow5
    go_wp2_with (first | (go_at_call_of 17 a1; go_must (refine (zisd_any _ _ _ xs _ (by exact HRa5.out) (by omega)).mono ?_; rintro e w6 ⟨rfl, rfl⟩)) | (go_at_call_of 17 b2; go_must (refine (zisd_any _ _ _ ys _ (by exact HRb5.out) (by omega)).mono ?_; rintro e w6 ⟨rfl, rfl⟩)) | (go_at_call_of 17 (w2.heap.size); go_must (refine (zisd_any _ _ _ (xs ++ ys) _ (by exact HRJ.out) (by omega)).mono ?_; rintro e w6 ⟨rfl, rfl⟩)))
    refine (clone_any _ _ _ xs _ HRa5.out HN1.out (by omega)).mono ?_
    rintro e w7 ⟨a7, c7, rfl, hown7, hb7⟩
    have HO7 : Hid (w7.ownsRow w6.heap.size 5 1 (.slice a7 n c7) n (xs.map (Value.int .u8))) := hown7
    have HB7 : Hid (Below w'.heap.size w' w7) := HB5.out.trans (hb7.mono (by omega))
    have HK7 : Hid (∀ k, (Value.slice a7 n c7).ownBlock = some k → w'.heap.size ≤ k) := fun k hk => by
      have := (hown7.lt k hk).1
      omega
    have hsz7 : w6.heap.size ≤ w7.heap.size := hb7.size
    clear hown7 hb7
    go_wp2_with fail
    refine (zpad_any w6.heap.size _ _ _ xs v _ _ hv0 hv HO7.out hsz7 (by omega) (by omega)).mono ?_
    rintro e w8 ⟨a8, c8, rfl, hown8, hgrow8⟩
    rw [Int.toNat_natCast] at hown8 ⊢
    have hc8 := own_cap hown8
    have HR8 : Hid (Rd w8 a8 (n + m) (xs ++ pad v m)) := Rd.of_own hown8
    have HB8 : Hid (Below w'.heap.size w' w8) := HB7.out.grown hgrow8 (by omega) HK7.out
    have HRP : Hid (Rd w8 (if c8 = n then a8 else Option.map (fun x => x.add n) a8) m (pad v m)) := by
      have h := HR8.out.drop hc8 (show n ≤ n + m by omega)
      rw [Nat.add_sub_cancel_left, List.drop_left' HRa5.out.len] at h
      exact h
    clear hown8 hgrow8
    go_wp2_with (first | (go_at_call_of 17 (c8 - n); go_must (have hh := HRP.out; generalize (if c8 = n then a8 else Option.map (fun x => x.add n) a8) = y at hh ⊢; refine (zisd_any _ _ _ (pad v m) _ (by exact hh) (by omega)).mono ?_; rintro e w9 ⟨rfl, rfl⟩; clear hh)) | (go_at_call_of 17 (n + m); go_must (refine (zisd_any _ _ _ (xs ++ pad v m) _ (by exact HR8.out) (by omega)).mono ?_; rintro e w9 ⟨rfl, rfl⟩)))
    go_ret
    exact ⟨rfl, HB8.out⟩

end Go.Proofs.Qxb6621640a
