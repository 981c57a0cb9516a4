/-
  THE WALKS of zzReadDigits (13) and FnAppendPaddedSplitsAndReadsBack (3).
-/
import Derived.Test.Qxb6621640aSplits
namespace Go.Proofs.Qxb6621640a
open Go.RowKit
set_option linter.unusedSimpArgs false
set_option linter.unusedVariables false

set_option maxHeartbeats 400000 in
theorem read_any (a : Option Addr) (m c : Nat) (v : Int) (w : World) (h : Rd w a m (pad v m)) (h0 : 0 ≤ v) (hv : v ≤ 18446744073709551615) (hm : m ≤ 20) :
    Calls Try.prog 13 #[.slice a m c] w fun e w' => e = .returned (.tuple #[.int .u64 (mp v m), .bool true]) ∧ w' = w := by
  by_cases hm0 : m = 0
  · subst hm0
    have H : Hid (mp v 0 = 0) := mp_zero v
    clear h
    go_enter Try.func13, Try.ntmps13
    go_wp2
    refine wp_loop_rounds 1 ?_
    rw [rounds_succ]
    go_wp2
    go_ret2
    exact ⟨by rw [H.out]; rfl, rfl⟩
  · obtain ⟨b, off, rfl, hc⟩ := h.cel (by omega)
    have hX := mp_bd v m
    have hXv := mp_le v m h0
    have HS : Hid (∀ k, k < m → dv (mp v m) (m - (k + 1)) = dv (mp v m) (m - k) * 10 + dv v (m - 1 - k) % 10) := fun k hk => read_step v m k hk
    have HZ : Hid (dv (mp v m) m = 0) := dv_mp_self v m
    have HB : Hid (∀ j, 0 ≤ dv (mp v m) j ∧ dv (mp v m) j ≤ 18446744073709551615) := fun j => dv_bd _ j hX.1 (by omega)
    have HG : Hid (∀ k, k < m → (pad v m).getD k 0 = 48 + dv v (m - 1 - k) % 10) := fun k hk => pad_getD v m k hk
    clear h hX hXv
    go_enter Try.func13, Try.ntmps13
    go_wp2
    go_loop [4, 5] (fun t i => ∃ k : Nat, k ≤ m ∧ i = .int .i64 k ∧ t = .int .u64 (dv (mp v m) (m - k))) (fun _ i => m - (intOf i).toNat)
    case atStart => exact ⟨0, Nat.zero_le _, rfl, by rw [Nat.sub_zero, HZ.out]⟩
    case round =>
      obtain ⟨k, hk, rfl, rfl⟩ := hrel
      by_cases hlt : k < m
      · have hcell := hc k hlt
        have hs := HS.out k hlt
        have hb := HB.out (m - k)
        have hb' := HB.out (m - (k + 1))
        rw [hs] at hb'
        rw [HG.out k hlt] at hcell
        have hd : 0 ≤ dv v (m - 1 - k) % 10 ∧ dv v (m - 1 - k) % 10 ≤ 9 := by omega
        obtain ⟨z, hz⟩ : ∃ z, z = 48 + dv v (m - 1 - k) % 10 := ⟨_, rfl⟩
        have HE : Hid (dv (mp v m) (m - (k + 1)) = dv (mp v m) (m - k) * 10 + (z - 48)) := by
          show _ = _
          rw [hs, hz]; omega
        rw [← hz] at hcell
        have hz1 : 48 ≤ z := by omega
        have hz2 : z ≤ 57 := by omega
        have hz3 : dv (mp v m) (m - k) * 10 + (z - 48) ≤ 18446744073709551615 := by omega
        have hz4 : dv (mp v m) (m - k) * 10 ≤ 18446744073709551615 := by omega
        clear hs hb' hz hc hd
        generalize dv (mp v m) (m - k) = A at *
        go_wp2
        go_round
        case rel => exact ⟨k + 1, by omega, by go_num, by rw [HE.out]⟩
        case measure => simp [intOf]; omega
      · have HK : Hid (dv (mp v m) (m - k) = mp v m) := by
          show _ = _
          rw [show m - k = 0 by omega, dv_zero]
        clear hc
        go_wp2
        go_ret2
        exact ⟨by rw [HK.out]; rfl, rfl⟩

theorem getD_left (xs ys : List Int) (k : Nat) (h : k < xs.length) : (xs ++ ys).getD k 0 = xs.getD k 0 := by
  simp [List.getD, List.getElem?_append_left h]

set_option maxHeartbeats 2000000 in
theorem sp_main (a : Option Addr) (n cap : Nat) (xs : List Int) (v : Int) (m1 m2 : Nat) (w : World) (h : Rd w a n xs) (hnone : a = none → n = 0 ∧ cap = 0)
    (hn : n ≤ 65536) (hm : m1 + m2 ≤ 20) (hv0 : 0 ≤ v) (hv : v ≤ 18446744073709551615) :
    Calls Try.prog 3 #[.slice a n cap, .int .u64 v, .int .i64 (m1 : Int), .int .i64 (m2 : Int)] w fun e w' => e = .returned (.bool true) ∧ Below w.heap.size w w' := by
  have h1 : ¬ (65536 : Int) < (n : Int) := by omega
  have h2 : ¬ (m1 : Int) < 0 := by omega
  have h3 : ¬ (m2 : Int) < 0 := by omega
  have h4 : ¬ (20 : Int) < (m1 : Int) := by omega
  have h5 : ¬ (20 : Int) < (m2 : Int) := by omega
  have h6 : ¬ (20 : Int) < (m1 : Int) + (m2 : Int) := by omega
  have hd := dv_bd v m2 hv0 hv
  have hp : 0 ≤ mp v m2 ∧ mp v m2 ≤ 18446744073709551615 := by
    have := mp_bd v m2
    have := mp_le v m2 hv0
    omega
  have HXL : Hid (xs.length = n) := h.len
  go_enter Try.func3, Try.ntmps3
  go_wp2_with fail
  refine (bytes8_yes _ _ _ _ _ _ _ (by omega)).mono ?_
  rintro e w' ⟨rfl, rfl⟩
  go_wp2_with fail
  refine (clone_any _ _ _ xs _ h hnone (by omega)).mono ?_
  rintro e w1 ⟨a1, c1, rfl, hown, hb⟩
  have HN1 : Hid (a1 = none → n = 0 ∧ c1 = 0) := own_none hown
  have HNA : Hid (∀ b o s, a1 = some ⟨b, o, s⟩ → b < w1.heap.size) := fun b o s e => (hown.lt b (by rw [e]; rfl)).2
  have HR1 : Hid (Rd w1 a1 n xs) := Rd.of_own hown
  have HB1 : Hid (Below w'.heap.size w' w1) := hb
  have hsz1 : w'.heap.size ≤ w1.heap.size := hb.size
  clear hown hb h hnone
  go_wp2_with fail
  refine (clone_any _ _ _ xs _ HR1.out HN1.out (by omega)).mono ?_
  rintro e w2 ⟨a2, c2, rfl, hown, hb⟩
  have HO2 : Hid (w2.ownsRow w1.heap.size 5 1 (.slice a2 n c2) n (xs.map (Value.int .u8))) := hown
  have HK2 : Hid (∀ k, (Value.slice a2 n c2).ownBlock = some k → w1.heap.size ≤ k) := fun k hk => (hown.lt k hk).1
  have HR2 : Hid (Rd w2 a1 n xs) := HR1.out.later hb
  have HB2 : Hid (Below w'.heap.size w' w2) := HB1.out.trans (hb.mono hsz1)
  have hsz2 : w1.heap.size ≤ w2.heap.size := hb.size
  clear hown hb
  go_wp2_with fail
  refine (zpad_any w1.heap.size _ _ _ xs v _ _ hv0 hv HO2.out hsz2 (by omega) (by omega)).mono ?_
  rintro e w3 ⟨a3, c3, rfl, hown, hg⟩
  rw [show ((m1 : Int) + (m2 : Int)).toNat = m1 + m2 from by omega] at hown ⊢
  have HR3 : Hid (Rd w3 a1 n xs) := HR2.out.grown hg (fun b o s e h => by
    have h1 := HNA.out b o s e
    have h2 := HK2.out b h.symm
    omega)
  have HP3 : Hid (Rd w3 a3 (n + (m1 + m2)) (xs ++ pad v (m1 + m2))) := Rd.of_own hown
  have hc3 := own_cap hown
  have HN3 : Hid (∀ b o s, a3 = some ⟨b, o, s⟩ → b < w3.heap.size) := fun b o s e => (hown.lt b (by rw [e]; rfl)).2
  have HB3 : Hid (Below w'.heap.size w' w3) := HB2.out.grown hg (by omega) (fun k hk => by have := HK2.out k hk; omega)
  have hsz3 : w2.heap.size ≤ w3.heap.size := hg.size
  clear hown hg
  go_wp2_with fail
  refine (clone_any _ _ _ xs _ HR3.out HN1.out (by omega)).mono ?_
  rintro e w4 ⟨a4, c4, rfl, hown, hb⟩
  have HO4 : Hid (w4.ownsRow w3.heap.size 5 1 (.slice a4 n c4) n (xs.map (Value.int .u8))) := hown
  have HK4 : Hid (∀ k, (Value.slice a4 n c4).ownBlock = some k → w3.heap.size ≤ k) := fun k hk => (hown.lt k hk).1
  have HP4 : Hid (Rd w4 a3 (n + (m1 + m2)) (xs ++ pad v (m1 + m2))) := HP3.out.later hb
  have HR4 : Hid (Rd w4 a1 n xs) := HR3.out.later hb
  have HB4 : Hid (Below w'.heap.size w' w4) := HB3.out.trans (hb.mono (by omega))
  have hsz4 : w3.heap.size ≤ w4.heap.size := hb.size
  clear hown hb
  go_wp2_with fail
  refine (div_any v m2 _ hv0 hv (by omega)).mono ?_
  rintro e w5 ⟨rfl, rfl⟩
  go_wp2_with fail
  refine (zpad_any w3.heap.size _ _ _ xs (dv v m2) _ _ hd.1 hd.2 HO4.out hsz4 (by omega) (by omega)).mono ?_
  rintro e w6 ⟨a6, c6, rfl, hown, hg⟩
  rw [Int.toNat_natCast] at hown ⊢
  have HP6 : Hid (Rd w6 a3 (n + (m1 + m2)) (xs ++ pad v (m1 + m2))) := HP4.out.grown hg (fun b o s e h => by
    have h1 := HN3.out b o s e
    have h2 := HK4.out b h.symm
    omega)
  have HR6 : Hid (Rd w6 a1 n xs) := HR4.out.grown hg (fun b o s e h => by
    have h1 := HNA.out b o s e
    have h2 := HK4.out b h.symm
    omega)
  have HO6 : Hid (w6.ownsRow w3.heap.size 5 1 (.slice a6 (n + m1) c6) (n + m1) ((xs ++ pad (dv v m2) m1).map (Value.int .u8))) := hown
  have HK6 : Hid (∀ k, (Value.slice a6 (n + m1) c6).ownBlock = some k → w3.heap.size ≤ k) := fun k hk => (hown.lt k hk).1
  have HB6 : Hid (Below w'.heap.size w' w6) := HB4.out.grown hg (by omega) (fun k hk => by have := HK4.out k hk; omega)
  have hsz6 : w5.heap.size ≤ w6.heap.size := hg.size
  clear hown hg
  go_wp2_with fail
  refine (mod_any v m2 _ hv0 hv (by omega)).mono ?_
  rintro e w7 ⟨rfl, rfl⟩
  go_wp2_with fail
  refine (zpad_any w3.heap.size _ _ _ (xs ++ pad (dv v m2) m1) (mp v m2) _ _ hp.1 hp.2 HO6.out (by omega) (by omega) (by omega)).mono ?_
  rintro e w8 ⟨a8, c8, rfl, hown, hg⟩
  rw [Int.toNat_natCast, List.append_assoc, ← pad_split] at hown
  rw [Int.toNat_natCast, show n + m1 + m2 = n + (m1 + m2) from by omega]
  rw [show n + m1 + m2 = n + (m1 + m2) from by omega] at hown
  have HP8 : Hid (Rd w8 a3 (n + (m1 + m2)) (xs ++ pad v (m1 + m2))) := HP6.out.grown hg (fun b o s e h => by
    have h1 := HN3.out b o s e
    have h2 := HK6.out b h.symm
    omega)
  have HR8 : Hid (Rd w8 a1 n xs) := HR6.out.grown hg (fun b o s e h => by
    have h1 := HNA.out b o s e
    have h2 := HK6.out b h.symm
    omega)
  have HQ8 : Hid (Rd w8 a8 (n + (m1 + m2)) (xs ++ pad v (m1 + m2))) := Rd.of_own hown
  have HB8 : Hid (Below w'.heap.size w' w8) := HB6.out.grown hg (by omega) (fun k hk => by have := HK6.out k hk; omega)
  have HRP : Hid (Rd w8 (if c3 = n then a3 else Option.map (fun x => x.add n) a3) (m1 + m2) (pad v (m1 + m2))) := by
    have h := HP8.out.drop hc3 (show n ≤ n + (m1 + m2) by omega)
    rw [Nat.add_sub_cancel_left, List.drop_left' HXL.out] at h
    exact h
  clear hown hg HR1 HR2 HR3 HR4 HR6 HP3 HP4 HP6 HO2 HO4 HO6 HK2 HK4 HK6 HN1 HNA HN3 HB1 HB2 HB3 HB4 HB6 hd hp hsz1 hsz2 hsz3 hsz4 hsz6
  go_wp2
  go_loopw [13] (fun i wr => ∃ k : Nat, k ≤ n + (m1 + m2) ∧ i = .int .i64 k ∧ (∃ q, wr = w8.drewN q)) (fun i _ => n + (m1 + m2) - (intOf i).toNat)
  case atStart => exact ⟨0, Nat.zero_le _, rfl, ⟨0, rfl⟩⟩
  case round =>
    obtain ⟨k, hk, rfl, ⟨q, rfl⟩⟩ := hrel
    by_cases hlt : k < n + (m1 + m2)
    · obtain ⟨b3, o3, ha3, hc⟩ := HP8.out.cel (by omega)
      obtain ⟨b8, o8, ha8, hc'⟩ := HQ8.out.cel (by omega)
      have hcell := hc k hlt
      have hcell' := hc' k hlt
      generalize (xs ++ pad v (m1 + m2)).getD k 0 = z at *
      subst ha3
      subst ha8
      clear hc hc' HP8 HQ8 HR8 HRP
      have hki : (k : Int) < (n : Int) + ((m1 : Int) + (m2 : Int)) := by omega
      go_wp2
      go_quiet (fail)
      go_wp2
      go_roundw
      case rel => exact ⟨k + 1, by omega, by go_num, ⟨_, rfl⟩⟩
      case measure => simp [intOf]; omega
    · have hge : ¬ (k : Int) < (n : Int) + ((m1 : Int) + (m2 : Int)) := by omega
      clear hk hlt
      go_wp2
      go_loopw [14] (fun i wr => ∃ k : Nat, k ≤ n ∧ i = .int .i64 k ∧ (∃ q, wr = w8.drewN q)) (fun i _ => n - (intOf i).toNat)
      case atStart => exact ⟨0, Nat.zero_le _, rfl, ⟨_, rfl⟩⟩
      case round =>
        obtain ⟨j, hj, rfl, ⟨q2, rfl⟩⟩ := hrel
        by_cases hlt : j < n
        · obtain ⟨b3, o3, ha3, hc⟩ := HP8.out.cel (by omega)
          obtain ⟨b1, o1, ha1, hc'⟩ := HR8.out.cel (by omega)
          have hcell := hc j (by omega)
          have hcell' := hc' j hlt
          rw [getD_left xs _ j (by rw [HXL.out]; exact hlt)] at hcell
          generalize xs.getD j 0 = z at *
          subst ha3
          subst ha1
          clear hc hc' HP8 HQ8 HR8 HRP
          have hki : (j : Int) < (n : Int) := by omega
          have hki' : (j : Int) < (n : Int) + ((m1 : Int) + (m2 : Int)) := by omega
          go_wp2
          go_quiet (fail)
          go_wp2
          go_roundw
          case rel => exact ⟨j + 1, by omega, by go_num, ⟨_, rfl⟩⟩
          case measure => simp [intOf]; omega
        · have hge : ¬ (j : Int) < (n : Int) := by omega
          have HE : Hid (((m1 : Int) + (m2 : Int)).toNat = m1 + m2) := by show _ = _; omega
          have HBE : Hid (Below w'.heap.size w' (w8.drewN q2)) := below_drewN HB8.out q2
          have HRQ : Hid (Rd (w8.drewN q2) (if c3 = n then a3 else Option.map (fun x => x.add n) a3) (m1 + m2) (pad v (m1 + m2))) := HRP.out.later (below_drewN (Below.refl _ _) q2)
          clear hj hlt HP8 HQ8 HR8 HRP HB8
          go_wp2_with (first | (go_at_call 13; go_must (have hh := HRQ.out; generalize (if c3 = n then a3 else Option.map (fun x => x.add n) a3) = y at hh ⊢; refine (read_any _ _ _ v _ (by exact hh) hv0 hv hm).mono ?_; rintro e w9 ⟨rfl, rfl⟩; clear hh)))
          refine (mod_int v _ _ hv0 hv (by omega) (by omega)).mono ?_
          rintro e w9 ⟨rfl, rfl⟩
          rw [HE.out]
          go_wp2
          go_ret
          exact ⟨rfl, HBE.out⟩

theorem sp_big (a : Option Addr) (n cap : Nat) (v w1 w2 : Int) (w : World) (h : 1048576 < n) :
    Calls Try.prog 3 #[.slice a n cap, .int .u64 v, .int .i64 w1, .int .i64 w2] w fun e w' => e = .returned (.bool true) ∧ Below w.heap.size w w' := by
  go_enter Try.func3, Try.ntmps3
  go_wp2_with fail
  refine (bytes8_no _ _ _ _ _ _ _ h).mono ?_
  rintro e w' ⟨rfl, rfl⟩
  go_wp2
  go_ret
  exact ⟨rfl, Below.refl _ _⟩

theorem sp_mid (a : Option Addr) (n cap : Nat) (v w1 w2 : Int) (w : World) (h : n ≤ 1048576) (h' : 65536 < n) :
    Calls Try.prog 3 #[.slice a n cap, .int .u64 v, .int .i64 w1, .int .i64 w2] w fun e w' => e = .returned (.bool true) ∧ Below w.heap.size w w' := by
  have h1 : (65536 : Int) < (n : Int) := by omega
  go_enter Try.func3, Try.ntmps3
  go_wp2_with fail
  refine (bytes8_yes _ _ _ _ _ _ _ h).mono ?_
  rintro e w' ⟨rfl, rfl⟩
  go_wp2
  go_ret
  exact ⟨rfl, Below.refl _ _⟩

set_option maxHeartbeats 1000000 in
theorem sp_out (a : Option Addr) (n cap : Nat) (v w1 w2 : Int) (w : World) (h : n ≤ 65536)
    (hc : w1 < 0 ∨ (0 ≤ w1 ∧ w2 < 0) ∨ (0 ≤ w1 ∧ 0 ≤ w2 ∧ 20 < w1) ∨ (0 ≤ w1 ∧ 0 ≤ w2 ∧ w1 ≤ 20 ∧ 20 < w2) ∨ (0 ≤ w1 ∧ 0 ≤ w2 ∧ w1 ≤ 20 ∧ w2 ≤ 20 ∧ 20 < w1 + w2)) :
    Calls Try.prog 3 #[.slice a n cap, .int .u64 v, .int .i64 w1, .int .i64 w2] w fun e w' => e = .returned (.bool true) ∧ Below w.heap.size w w' := by
  have h1 : ¬ (65536 : Int) < (n : Int) := by omega
  rcases hc with g1 | ⟨g1, g2⟩ | ⟨g1, g2, g3⟩ | ⟨g1, g2, g3, g4⟩ | ⟨g1, g2, g3, g4, g5⟩
  all_goals
    go_enter Try.func3, Try.ntmps3
    go_wp2_with fail
    refine (bytes8_yes _ _ _ _ _ _ _ (by omega)).mono ?_
    rintro e w' ⟨rfl, rfl⟩
    go_wp2
    go_ret
    exact ⟨rfl, Below.refl _ _⟩

theorem sp_any (a : Option Addr) (n cap : Nat) (xs : List Int) (v w1 w2 : Int) (w : World) (h : Rd w a n xs) (hnone : a = none → n = 0 ∧ cap = 0) (hv0 : 0 ≤ v) (hv : v ≤ 18446744073709551615) :
    Calls Try.prog 3 #[.slice a n cap, .int .u64 v, .int .i64 w1, .int .i64 w2] w fun e w' => e = .returned (.bool true) ∧ Below w.heap.size w w' := by
  by_cases g1 : 1048576 < n
  · exact sp_big a n cap v w1 w2 w g1
  by_cases g2 : 65536 < n
  · exact sp_mid a n cap v w1 w2 w (by omega) g2
  by_cases g3 : 0 ≤ w1 ∧ 0 ≤ w2 ∧ w1 ≤ 20 ∧ w2 ≤ 20 ∧ w1 + w2 ≤ 20
  · obtain ⟨m1, rfl⟩ := Int.eq_ofNat_of_zero_le g3.1
    obtain ⟨m2, rfl⟩ := Int.eq_ofNat_of_zero_le g3.2.1
    exact sp_main a n cap xs v m1 m2 w h hnone (by omega) (by omega) hv0 hv
  · exact sp_out a n cap v w1 w2 w (by omega) (by omega)

end Go.Proofs.Qxb6621640a
