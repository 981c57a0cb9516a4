/-
  THE WALK of FnAppendPaddedKeepsOrder (4), and the contract of its bound (14).
-/
import Derived.Test.Qxb6621640aOrder
namespace Go.Proofs.Qxb6621640a
open Go.RowKit
set_option linter.unusedSimpArgs false
set_option linter.unusedVariables false

theorem bytes14_yes (a : Option Addr) (n c : Nat) (v v' wd : Int) (w : World) (hn : n ≤ 1048576) :
    Calls Try.prog 14 #[.slice a n c, .int .u64 v, .int .u64 v', .int .i64 wd] w fun e w' => e = .returned (.bool true) ∧ w' = w := by
  have h1 : ¬ (1048576 : Int) < (n : Int) := by omega
  go_enter Try.func14, Try.ntmps14
  go_wp2
  go_ret
  exact ⟨rfl, rfl⟩

theorem bytes14_no (a : Option Addr) (n c : Nat) (v v' wd : Int) (w : World) (hn : 1048576 < n) :
    Calls Try.prog 14 #[.slice a n c, .int .u64 v, .int .u64 v', .int .i64 wd] w fun e w' => e = .returned (.bool false) ∧ w' = w := by
  have h1 : (1048576 : Int) < (n : Int) := by omega
  go_enter Try.func14, Try.ntmps14
  go_wp2
  go_ret
  exact ⟨rfl, rfl⟩

theorem ccases (x y : Int) : (x < y ∧ cw x y = -1) ∨ (y < x ∧ x > y ∧ cw x y = 1) ∨ (¬ x < y ∧ ¬ y < x ∧ cw x y = 0) := by
  unfold cw
  by_cases h1 : x < y
  · exact .inl ⟨h1, if_pos h1⟩
  · by_cases h2 : y < x
    · exact .inr (.inl ⟨h2, h2, by rw [if_neg h1, if_pos h2]⟩)
    · exact .inr (.inr ⟨h1, h2, by rw [if_neg h1, if_neg h2]⟩)

set_option maxHeartbeats 4000000 in
theorem ko_main (a : Option Addr) (n cap : Nat) (xs : List Int) (v v' : Int) (m : Nat) (w : World) (h : Rd w a n xs) (hnone : a = none → n = 0 ∧ cap = 0)
    (hn : n ≤ 65536) (hm : m ≤ 20) (hv0 : 0 ≤ v) (hv : v ≤ 18446744073709551615) (hw0 : 0 ≤ v') (hw : v' ≤ 18446744073709551615) :
    Calls Try.prog 4 #[.slice a n cap, .int .u64 v, .int .u64 v', .int .i64 (m : Int)] w fun e w' => e = .returned (.bool true) ∧ Below w.heap.size w w' := by
  have hC := ccases (mp v m) (mp v' m)
  have hP : cmpL (xs ++ pad v m) (xs ++ pad v' m) = cw (mp v m) (mp v' m) := by rw [cmpL_pre, cmp_pad]
  have h1 : ¬ (65536 : Int) < (n : Int) := by omega
  have h3 : ¬ (20 : Int) < (m : Int) := by omega
  have h4 : ¬ (m : Int) < 0 := by omega
  rcases hC with ⟨hc, hcw⟩ | ⟨hc, hc', hcw⟩ | ⟨hc, hc', hcw⟩
  all_goals
    rw [hcw] at hP
    clear hcw
    go_enter Try.func4, Try.ntmps4
    go_wp2_with fail
    refine (bytes14_yes _ _ _ _ _ _ _ (by omega)).mono ?_
    rintro e w' ⟨rfl, rfl⟩
    go_wp2_with fail
    refine (clone_any _ _ _ xs _ h hnone (by omega)).mono ?_
    rintro e w1 ⟨a1, c1, rfl, hown, hb⟩
    have HN1 : Hid (a1 = none → n = 0 ∧ c1 = 0) := own_none hown
    have HNA : Hid (∀ b o s, a1 = some ⟨b, o, s⟩ → b < w1.heap.size) := fun b o s e => (hown.lt b (by rw [e]; rfl)).2
    have HR1 : Hid (Rd w1 a1 n xs) := Rd.of_own hown
    have HB1 : Hid (Below w'.heap.size w' w1) := hb
    have hsz1 : w'.heap.size ≤ w1.heap.size := hb.size
    clear hown hb h hnone
    go_wp2_with fail
    refine (clone_any _ _ _ xs _ HR1.out HN1.out (by omega)).mono ?_
    rintro e w2 ⟨a2, c2, rfl, hown, hb⟩
    have HO2 : Hid (w2.ownsRow w1.heap.size 5 1 (.slice a2 n c2) n (xs.map (Value.int .u8))) := hown
    have HK2 : Hid (∀ k, (Value.slice a2 n c2).ownBlock = some k → w1.heap.size ≤ k) := fun k hk => (hown.lt k hk).1
    have HR2 : Hid (Rd w2 a1 n xs) := HR1.out.later hb
    have HB2 : Hid (Below w'.heap.size w' w2) := HB1.out.trans (hb.mono hsz1)
    have hsz2 : w1.heap.size ≤ w2.heap.size := hb.size
    clear hown hb
    go_wp2_with fail
    refine (zpad_any w1.heap.size _ _ _ xs v _ _ hv0 hv HO2.out hsz2 (by omega) (by omega)).mono ?_
    rintro e w3 ⟨a3, c3, rfl, hown, hg⟩
    rw [Int.toNat_natCast] at hown ⊢
    have HR3 : Hid (Rd w3 a1 n xs) := HR2.out.grown hg (fun b o s e h => by
      have h1 := HNA.out b o s e
      have h2 := HK2.out b h.symm
      omega)
    have HP3 : Hid (Rd w3 a3 (n + m) (xs ++ pad v m)) := Rd.of_own hown
    have HN3 : Hid (∀ b o s, a3 = some ⟨b, o, s⟩ → b < w3.heap.size) := fun b o s e => (hown.lt b (by rw [e]; rfl)).2
    have HB3 : Hid (Below w'.heap.size w' w3) := HB2.out.grown hg (by omega) (fun k hk => by have := HK2.out k hk; omega)
    have hsz3 : w2.heap.size ≤ w3.heap.size := hg.size
    clear hown hg
    go_wp2_with fail
    refine (clone_any _ _ _ xs _ HR3.out HN1.out (by omega)).mono ?_
    rintro e w4 ⟨a4, c4, rfl, hown, hb⟩
    have HO4 : Hid (w4.ownsRow w3.heap.size 5 1 (.slice a4 n c4) n (xs.map (Value.int .u8))) := hown
    have HK4 : Hid (∀ k, (Value.slice a4 n c4).ownBlock = some k → w3.heap.size ≤ k) := fun k hk => (hown.lt k hk).1
    have HP4 : Hid (Rd w4 a3 (n + m) (xs ++ pad v m)) := HP3.out.later hb
    have HB4 : Hid (Below w'.heap.size w' w4) := HB3.out.trans (hb.mono (by omega))
    have hsz4 : w3.heap.size ≤ w4.heap.size := hb.size
    clear hown hb
    go_wp2_with fail
    refine (zpad_any w3.heap.size _ _ _ xs v' _ _ hw0 hw HO4.out hsz4 (by omega) (by omega)).mono ?_
    rintro e w5 ⟨a5, c5, rfl, hown, hg⟩
    rw [Int.toNat_natCast] at hown ⊢
    have HP5 : Hid (Rd w5 a3 (n + m) (xs ++ pad v m)) := HP4.out.grown hg (fun b o s e h => by
      have h1 := HN3.out b o s e
      have h2 := HK4.out b h.symm
      omega)
    have HQ5 : Hid (Rd w5 a5 (n + m) (xs ++ pad v' m)) := Rd.of_own hown
    have HB5 : Hid (Below w'.heap.size w' w5) := HB4.out.grown hg (by omega) (fun k hk => by have := HK4.out k hk; omega)
    clear hown hg
    go_wp2_with fail
    refine (mod_any v m _ hv0 hv hm).mono ?_
    rintro e w6 ⟨rfl, rfl⟩
    go_wp2_with fail
    refine (mod_any v' m _ hw0 hw hm).mono ?_
    rintro e w6 ⟨rfl, rfl⟩
    go_wp2_with fail
    refine (compare_any _ _ _ _ _ (xs ++ pad v m) (xs ++ pad v' m) _ HP5.out HQ5.out (by omega)).mono ?_
    rintro e w7 ⟨rfl, q, rfl⟩
    go_wp2
    go_ret
    exact ⟨rfl, below_drewN HB5.out q⟩

set_option maxHeartbeats 4000000 in
theorem ko_neg (a : Option Addr) (n cap : Nat) (xs : List Int) (v v' wd : Int) (w : World) (h : Rd w a n xs) (hnone : a = none → n = 0 ∧ cap = 0)
    (hn : n ≤ 65536) (hwd : wd < 0) (hv0 : 0 ≤ v) (hv : v ≤ 18446744073709551615) (hw0 : 0 ≤ v') (hw : v' ≤ 18446744073709551615) :
    Calls Try.prog 4 #[.slice a n cap, .int .u64 v, .int .u64 v', .int .i64 wd] w fun e w' => e = .returned (.bool true) ∧ Below w.heap.size w w' := by
  have hP : cmpL xs xs = 0 := by have := cmpL_pre xs [] []; simpa [cmpL] using this
  have ht0 : wd.toNat = 0 := by omega
  have h1 : ¬ (65536 : Int) < (n : Int) := by omega
  have h3 : ¬ (20 : Int) < wd := by omega
  have hm0 : mp v 0 = 0 := mp_zero v
  have hm1 : mp v' 0 = 0 := mp_zero v'
  all_goals
    go_enter Try.func4, Try.ntmps4
    go_wp2_with fail
    refine (bytes14_yes _ _ _ _ _ _ _ (by omega)).mono ?_
    rintro e w' ⟨rfl, rfl⟩
    go_wp2_with fail
    refine (clone_any _ _ _ xs _ h hnone (by omega)).mono ?_
    rintro e w1 ⟨a1, c1, rfl, hown, hb⟩
    have HN1 : Hid (a1 = none → n = 0 ∧ c1 = 0) := own_none hown
    have HNA : Hid (∀ b o s, a1 = some ⟨b, o, s⟩ → b < w1.heap.size) := fun b o s e => (hown.lt b (by rw [e]; rfl)).2
    have HR1 : Hid (Rd w1 a1 n xs) := Rd.of_own hown
    have HB1 : Hid (Below w'.heap.size w' w1) := hb
    have hsz1 : w'.heap.size ≤ w1.heap.size := hb.size
    clear hown hb h hnone
    go_wp2_with fail
    refine (clone_any _ _ _ xs _ HR1.out HN1.out (by omega)).mono ?_
    rintro e w2 ⟨a2, c2, rfl, hown, hb⟩
    have HO2 : Hid (w2.ownsRow w1.heap.size 5 1 (.slice a2 n c2) n (xs.map (Value.int .u8))) := hown
    have HK2 : Hid (∀ k, (Value.slice a2 n c2).ownBlock = some k → w1.heap.size ≤ k) := fun k hk => (hown.lt k hk).1
    have HR2 : Hid (Rd w2 a1 n xs) := HR1.out.later hb
    have HB2 : Hid (Below w'.heap.size w' w2) := HB1.out.trans (hb.mono hsz1)
    have hsz2 : w1.heap.size ≤ w2.heap.size := hb.size
    clear hown hb
    go_wp2_with fail
    refine (zpad_any w1.heap.size _ _ _ xs v _ _ hv0 hv HO2.out hsz2 (by omega) (by omega)).mono ?_
    rintro e w3 ⟨a3, c3, rfl, hown, hg⟩
    rw [ht0, Nat.add_zero, pad, List.append_nil] at hown
    rw [ht0, Nat.add_zero]
    have HR3 : Hid (Rd w3 a1 n xs) := HR2.out.grown hg (fun b o s e h => by
      have h1 := HNA.out b o s e
      have h2 := HK2.out b h.symm
      omega)
    have HP3 : Hid (Rd w3 a3 n xs) := Rd.of_own hown
    have HN3 : Hid (∀ b o s, a3 = some ⟨b, o, s⟩ → b < w3.heap.size) := fun b o s e => (hown.lt b (by rw [e]; rfl)).2
    have HB3 : Hid (Below w'.heap.size w' w3) := HB2.out.grown hg (by omega) (fun k hk => by have := HK2.out k hk; omega)
    have hsz3 : w2.heap.size ≤ w3.heap.size := hg.size
    clear hown hg
    go_wp2_with fail
    refine (clone_any _ _ _ xs _ HR3.out HN1.out (by omega)).mono ?_
    rintro e w4 ⟨a4, c4, rfl, hown, hb⟩
    have HO4 : Hid (w4.ownsRow w3.heap.size 5 1 (.slice a4 n c4) n (xs.map (Value.int .u8))) := hown
    have HK4 : Hid (∀ k, (Value.slice a4 n c4).ownBlock = some k → w3.heap.size ≤ k) := fun k hk => (hown.lt k hk).1
    have HP4 : Hid (Rd w4 a3 n xs) := HP3.out.later hb
    have HB4 : Hid (Below w'.heap.size w' w4) := HB3.out.trans (hb.mono (by omega))
    have hsz4 : w3.heap.size ≤ w4.heap.size := hb.size
    clear hown hb
    go_wp2_with fail
    refine (zpad_any w3.heap.size _ _ _ xs v' _ _ hw0 hw HO4.out hsz4 (by omega) (by omega)).mono ?_
    rintro e w5 ⟨a5, c5, rfl, hown, hg⟩
    rw [ht0, Nat.add_zero, pad, List.append_nil] at hown
    rw [ht0, Nat.add_zero]
    have HP5 : Hid (Rd w5 a3 n xs) := HP4.out.grown hg (fun b o s e h => by
      have h1 := HN3.out b o s e
      have h2 := HK4.out b h.symm
      omega)
    have HQ5 : Hid (Rd w5 a5 n xs) := Rd.of_own hown
    have HB5 : Hid (Below w'.heap.size w' w5) := HB4.out.grown hg (by omega) (fun k hk => by have := HK4.out k hk; omega)
    clear hown hg
    go_wp2_with fail
    refine (mod_any v 0 _ hv0 hv (by omega)).mono ?_
    rintro e w6 ⟨rfl, rfl⟩
    go_wp2_with fail
    refine (mod_any v' 0 _ hw0 hw (by omega)).mono ?_
    rintro e w6 ⟨rfl, rfl⟩
    go_wp2_with fail
    refine (compare_any _ _ _ _ _ xs xs _ HP5.out HQ5.out (by omega)).mono ?_
    rintro e w7 ⟨rfl, q, rfl⟩
    go_wp2
    go_ret
    exact ⟨rfl, below_drewN HB5.out q⟩

theorem ko_big (a : Option Addr) (n cap : Nat) (v v' wd : Int) (w : World) (h : 1048576 < n) :
    Calls Try.prog 4 #[.slice a n cap, .int .u64 v, .int .u64 v', .int .i64 wd] w fun e w' => e = .returned (.bool true) ∧ Below w.heap.size w w' := by
  go_enter Try.func4, Try.ntmps4
  go_wp2_with fail
  refine (bytes14_no _ _ _ _ _ _ _ h).mono ?_
  rintro e w' ⟨rfl, rfl⟩
  go_wp2
  go_ret
  exact ⟨rfl, Below.refl _ _⟩

theorem ko_mid (a : Option Addr) (n cap : Nat) (v v' wd : Int) (w : World) (h : n ≤ 1048576) (h' : 65536 < n) :
    Calls Try.prog 4 #[.slice a n cap, .int .u64 v, .int .u64 v', .int .i64 wd] w fun e w' => e = .returned (.bool true) ∧ Below w.heap.size w w' := by
  have h1 : (65536 : Int) < (n : Int) := by omega
  go_enter Try.func4, Try.ntmps4
  go_wp2_with fail
  refine (bytes14_yes _ _ _ _ _ _ _ h).mono ?_
  rintro e w' ⟨rfl, rfl⟩
  go_wp2
  go_ret
  exact ⟨rfl, Below.refl _ _⟩

theorem ko_wide (a : Option Addr) (n cap : Nat) (v v' wd : Int) (w : World) (h : n ≤ 65536) (h' : 20 < wd) :
    Calls Try.prog 4 #[.slice a n cap, .int .u64 v, .int .u64 v', .int .i64 wd] w fun e w' => e = .returned (.bool true) ∧ Below w.heap.size w w' := by
  have h1 : ¬ (65536 : Int) < (n : Int) := by omega
  go_enter Try.func4, Try.ntmps4
  go_wp2_with fail
  refine (bytes14_yes _ _ _ _ _ _ _ (by omega)).mono ?_
  rintro e w' ⟨rfl, rfl⟩
  go_wp2
  go_ret
  exact ⟨rfl, Below.refl _ _⟩

theorem ko_any (a : Option Addr) (n cap : Nat) (xs : List Int) (v v' wd : Int) (w : World) (h : Rd w a n xs) (hnone : a = none → n = 0 ∧ cap = 0)
    (hv0 : 0 ≤ v) (hv : v ≤ 18446744073709551615) (hw0 : 0 ≤ v') (hw : v' ≤ 18446744073709551615) :
    Calls Try.prog 4 #[.slice a n cap, .int .u64 v, .int .u64 v', .int .i64 wd] w fun e w' => e = .returned (.bool true) ∧ Below w.heap.size w w' := by
  by_cases g1 : 1048576 < n
  · exact ko_big a n cap v v' wd w g1
  by_cases g2 : 65536 < n
  · exact ko_mid a n cap v v' wd w (by omega) g2
  by_cases g3 : 20 < wd
  · exact ko_wide a n cap v v' wd w (by omega) g3
  by_cases g4 : wd < 0
  · exact ko_neg a n cap xs v v' wd w h hnone (by omega) g4 hv0 hv hw0 hw
  obtain ⟨m, rfl⟩ := Int.eq_ofNat_of_zero_le (show 0 ≤ wd by omega)
  exact ko_main a n cap xs v v' m w h hnone (by omega) (by omega) hv0 hv hw0 hw

end Go.Proofs.Qxb6621640a
