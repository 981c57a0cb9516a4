/-
  THE WALK of FnExpiredTakesLongestDuePrefix (3).
-/
import Derived.Test.Qxb6623457aNew
namespace Go.Proofs.Qxb6623457a
open Go.RowKit
set_option linter.unusedSimpArgs false
set_option linter.unusedVariables false

set_option maxRecDepth 100000 in
set_option maxHeartbeats 4000000 in
theorem pf_main (a b : Option Addr) (c c' N n' K r : Nat) (first cut : Int) (I : Nat → ByteArray) (T : Nat → Int) (w : World)
    (h : Rf w a N (fun j => .string (I j))) (h' : Rf w b n' (fun j => .int .i64 (T j))) (hnone : a = none → N = 0 ∧ c = 0) (hnone' : b = none → n' = 0 ∧ c' = 0) (hn : N ≤ 65536) (hn' : n' ≤ 65536)
    (hN1 : N ≤ K + r) (hN2 : K + r ≤ N) (hK : ∀ j, j < K → T j ≤ cut) (hK' : 0 < r → cut < T K) :
    Calls Try.prog 3 #[.slice a N c, .slice b n' c', .int .i64 first, .int .i64 cut] w fun e w' => e = .returned (.bool true) ∧ Below w.heap.size w w' := by
  obtain ⟨i9, hi9, hz9, hs9, hb9⟩ := info_parts info9
  obtain ⟨i2, hi2, hz2, hs2, hb2⟩ := info_parts info2
  have HK : Hid (∀ j, j < K → T j ≤ cut) := hK
  have HK' : Hid (0 < r → cut < T K) := hK'
  have HNO : Hid (a = none → N = 0 ∧ c = 0) := hnone
  have HNO' : Hid (b = none → n' = 0 ∧ c' = 0) := hnone'
  have g1 : ¬ (65536 : Int) < (N : Int) := by omega
  have g2 : ¬ (65536 : Int) < (n' : Int) := by omega
  clear hK hK' hnone hnone'
  go_enter Try.func3, Try.ntmps3
  go_wp2_with fail
  refine (bytes5_any _ _ _ _ _ _ I _ _ _ h (by omega)).mono ?_
  rintro e w' ⟨⟨rb, rfl⟩, rfl⟩
  cases rb
  · go_wp2
    go_ret
    exact ⟨rfl, Below.refl _ _⟩
  have HA : Hid (Rf w' a N (fun j => .string (I j))) := h
  have HT : Hid (Rf w' b n' (fun j => .int .i64 (T j))) := h'
  clear h h'
  go_upto_if 38 with fail
  go_cut [0] (fun s0 wc => ∃ a1 c1, s0 = .slice a1 N c1 ∧ Rf wc a1 N (fun j => .string (I j)) ∧ Below w'.heap.size w' wc)
  case first =>
    cases a with
    | none =>
      go_wp2_with fail
      go_meet
      exact ⟨none, c, rfl, HA.out, Below.refl _ _⟩
    | some ad => as_aux_lemma =>
      obtain ⟨X, hX⟩ : ∃ X, X = (List.range N).map (fun j => Value.string (I j)) := ⟨_, rfl⟩
      have HX : Hid (X = (List.range N).map (fun j => Value.string (I j))) := hX
      have HX1 : Hid (∀ v ∈ X, v.oneCell' = true) := by
        rw [hX]; intro v hv
        obtain ⟨_, _, rfl⟩ := List.mem_map.1 hv
        rfl
      have HC : Hid (∀ j v, X[j]? = some v → w'.cell? (ad.add j) = some v) := by rw [hX]; exact cells_of_rf HA.out
      have HXl : Hid (X.length = N) := by show _ = _; rw [hX]; simp
      clear hX
      go_wp2_with (at_make; go_must (refine wpList_make_full _ rfl _ _ 22 rfl w'.heap.size 9 i9 (Value.string ByteArray.empty) 1 Try.underlying22 hi9 hz9 hs9 .i64 .i64 _ _ N rfl rfl rfl rfl (by rw [hb9]; omega) (by unfold maxLen; omega) (Nat.le_refl _) ?_))
      intro w1 hown hgrow
      obtain ⟨Z, hZ⟩ : ∃ Z, Z = (madeCells #[Value.string ByteArray.empty] N).toList := ⟨_, rfl⟩
      have hown2 : w1.ownsRow w'.heap.size 9 1 (.slice (some ⟨w'.heap.size, 0, none⟩) N N) N Z := by rw [hZ]; simpa using hown
      have HB : Hid (w1.heap[w'.heap.size]? = some (.cells Z.toArray 9 (0, 0))) := own_block hown2
      have HZl : Hid (Z.length = N) := by have := hown2.1; show _ = _; omega
      have HW : Hid (Below w'.heap.size w' w1) := below_of_grown hgrow (Nat.le_refl _) (fun k hk => by cases hk)
      have HC1 : Hid (∀ j v, X[j]? = some v → w1.cell? (ad.add j) = some v) := fun j v hv => by
        have h1 := HC.out j v hv
        rw [HW.out.cell (World.block_lt_of_cell? w' _ h1)]
        exact h1
      clear hown hown2 hgrow hZ
      go_wp2_with (refine wpList_copy_splice rfl (.tmp 42) (.tmp 43) 22 22 rfl 9 Try.underlying22 (by rw [hi9]; simp [hs9]) _ _ _ _ _ _ rfl rfl w'.heap.size 0 Z 9 HB.out X (by rw [HXl.out]; exact (Nat.min_self N).symm) (fun h0 => ⟨rfl, _, rfl, HC1.out⟩) (by rw [HXl.out, HZl.out]; omega) HX1.out w'.heap.size w' HW.out (Nat.le_refl _) ?_)
      intro w2 HG2 hB2
      have HO : Hid (Rf w2 (some ⟨w'.heap.size, 0, none⟩) N (fun j => Value.string (I j))) := by
        have h2 := HG2.out
        rw [splice_whole _ _ (by rw [HXl.out, HZl.out])] at h2
        have h3 := own_mk h2 (Nat.le_refl w'.heap.size) HXl.out (by unfold maxLen; omega)
        rw [HX.out] at h3
        exact Rf.of_own h3
      have HB2 : Hid (Below w'.heap.size w' w2) := hB2
      clear HG2 hB2
      go_wp2_with fail
      go_meet
      exact ⟨_, _, rfl, HO.out, HB2.out⟩
  case rest =>
    obtain ⟨a1, c1, rfl, hA1, hB1⟩ := hcut
    have HA1 : Hid (Rf wc a1 N (fun j => .string (I j))) := hA1
    have HB1 : Hid (Below w'.heap.size w' wc) := hB1
    have HT1 : Hid (Rf wc b n' (fun j => .int .i64 (T j))) := HT.out.later hB1
    have hsz1 : w'.heap.size ≤ wc.heap.size := hB1.size
    clear hA1 hB1 HA HT HNO
    obtain ⟨wa, hwa⟩ : ∃ wa, wa = wc := ⟨_, rfl⟩
    subst hwa
    go_upto_if 47 with fail
    go_cut [1] (fun s0 wc => ∃ b1 d1, s0 = .slice b1 n' d1 ∧ Rf wc b1 n' (fun j => .int .i64 (T j)) ∧ Below wa.heap.size wa wc)
    case first =>
      cases b with
      | none =>
        go_wp2_with fail
        go_meet
        exact ⟨none, c', rfl, HT1.out, Below.refl _ _⟩
      | some ad => as_aux_lemma =>
        obtain ⟨X, hX⟩ : ∃ X, X = (List.range n').map (fun j => Value.int .i64 (T j)) := ⟨_, rfl⟩
        have HX : Hid (X = (List.range n').map (fun j => Value.int .i64 (T j))) := hX
        have HX1 : Hid (∀ v ∈ X, v.oneCell' = true) := by
          rw [hX]; intro v hv
          obtain ⟨_, _, rfl⟩ := List.mem_map.1 hv
          rfl
        have HC : Hid (∀ j v, X[j]? = some v → wa.cell? (ad.add j) = some v) := by rw [hX]; exact cells_of_rf HT1.out
        have HXl : Hid (X.length = n') := by show _ = _; rw [hX]; simp
        clear hX
        go_wp2_with (at_make; go_must (refine wpList_make_full _ rfl _ _ 23 rfl wa.heap.size 2 i2 (Value.int .i64 0) 1 Try.underlying23 hi2 hz2 hs2 .i64 .i64 _ _ n' rfl rfl rfl rfl (by rw [hb2]; omega) (by unfold maxLen; omega) (Nat.le_refl _) ?_))
        intro w1 hown hgrow
        obtain ⟨Z, hZ⟩ : ∃ Z, Z = (madeCells #[Value.int .i64 0] n').toList := ⟨_, rfl⟩
        have hown2 : w1.ownsRow wa.heap.size 2 1 (.slice (some ⟨wa.heap.size, 0, none⟩) n' n') n' Z := by rw [hZ]; simpa using hown
        have HB : Hid (w1.heap[wa.heap.size]? = some (.cells Z.toArray 2 (0, 0))) := own_block hown2
        have HZl : Hid (Z.length = n') := by have := hown2.1; show _ = _; omega
        have HW : Hid (Below wa.heap.size wa w1) := below_of_grown hgrow (Nat.le_refl _) (fun k hk => by cases hk)
        have HC1 : Hid (∀ j v, X[j]? = some v → w1.cell? (ad.add j) = some v) := fun j v hv => by
          have h1 := HC.out j v hv
          rw [HW.out.cell (World.block_lt_of_cell? wa _ h1)]
          exact h1
        clear hown hown2 hgrow hZ
        go_wp2_with (refine wpList_copy_splice rfl (.tmp 51) (.tmp 52) 23 23 rfl 2 Try.underlying23 (by rw [hi2]; simp [hs2]) _ _ _ _ _ _ rfl rfl wa.heap.size 0 Z 2 HB.out X (by rw [HXl.out]; exact (Nat.min_self n').symm) (fun h0 => ⟨rfl, _, rfl, HC1.out⟩) (by rw [HXl.out, HZl.out]; omega) HX1.out wa.heap.size wa HW.out (Nat.le_refl _) ?_)
        intro w2 HG2 hB2
        have HO : Hid (Rf w2 (some ⟨wa.heap.size, 0, none⟩) n' (fun j => Value.int .i64 (T j))) := by
          have h2 := HG2.out
          rw [splice_whole _ _ (by rw [HXl.out, HZl.out])] at h2
          have h3 := own_mk h2 (Nat.le_refl wa.heap.size) HXl.out (by unfold maxLen; omega)
          rw [HX.out] at h3
          exact Rf.of_own h3
        have HB2 : Hid (Below wa.heap.size wa w2) := hB2
        clear HG2 hB2
        go_wp2_with fail
        go_meet
        exact ⟨_, _, rfl, HO.out, HB2.out⟩
    case rest =>
      obtain ⟨b1, d1, rfl, hT2, hB2⟩ := hcut
      have HA2 : Hid (Rf wc a1 N (fun j => .string (I j))) := HA1.out.later hB2
      have HT2 : Hid (Rf wc b1 n' (fun j => .int .i64 (T j))) := hT2
      have HB2 : Hid (Below w'.heap.size w' wc) := HB1.out.trans (hB2.mono hsz1)
      have hsz2 : w'.heap.size ≤ wc.heap.size := HB2.out.size
      clear hT2 hB2 HA1 HT1 HB1 HNO' hsz1 hi9 hz9 hs9 hb9 hi2 hz2 hs2 hb2
      by_cases h8 : (1048576 : Int) < 8 * (N : Int) + 8 * (n' : Int)
      · go_wp2
        go_ret
        exact ⟨rfl, HB2.out⟩
      go_wp2
      go_loop [11, 12] (fun t i => ∃ k : Nat, k ≤ N ∧ i = .int .i64 k ∧ ∃ z : Int, t = .int .i64 z) (fun _ i => N - (intOf i).toNat)
      case atStart => exact ⟨0, Nat.zero_le _, rfl, _, rfl⟩
      case round =>
        obtain ⟨k, hk, rfl, z, rfl⟩ := hrel
        by_cases hlt : k < N
        · as_aux_lemma =>
          obtain ⟨ba, oa, ha, hca⟩ := HA2.out.cel (by omega)
          have hcell := hca k hlt
          subst ha
          clear hca HA2 HT2
          generalize I k = s at *
          have hki : (k : Int) < (N : Int) := by omega
          go_wp2
          · go_ret
            exact ⟨rfl, HB2.out⟩
          · go_round
            case rel => exact ⟨k + 1, by omega, by go_num, _, rfl⟩
            case measure => simp [intOf]; omega
        have hge : ¬ (k : Int) < (N : Int) := by omega
        by_cases hnn : N = n'
        case neg =>
          have hne : ((N : Int) != (n' : Int)) = true := by rw [bne_iff_ne]; omega
          clear hnn
          go_wp2
          go_ret
          exact ⟨rfl, HB2.out⟩
        subst hnn
        by_cases hf0 : first < 0
        · go_wp2
          go_ret
          exact ⟨rfl, HB2.out⟩
        by_cases hf1 : 1073741824 < first
        · go_wp2
          go_ret
          exact ⟨rfl, HB2.out⟩
        clear hk hlt
        go_wp2
        go_loop [14] (fun i => ∃ j : Nat, j ≤ K ∧ i = .int .i64 j) (fun i => K - (intOf i).toNat)
        case atStart => exact ⟨0, Nat.zero_le _, rfl⟩
        case round =>
          obtain ⟨j, hj, rfl⟩ := hrel
          by_cases hlt2 : j < K
          · as_aux_lemma =>
            obtain ⟨bb, ob, hb, hcb⟩ := HT2.out.cel (by omega)
            have hcell := hcb j (by omega)
            have hle := HK.out j hlt2
            subst hb
            clear hcb HA2 HT2
            generalize T j = t at *
            have hji : (j : Int) < (N : Int) := by omega
            go_wp2
            go_round
            case rel => exact ⟨j + 1, by omega, by go_num⟩
            case measure => simp [intOf]; omega
          obtain rfl : K = j := by omega
          clear hj hlt2
          have hway : (∃ bb ob, b1 = some ⟨bb, ob, none⟩ ∧ wc.cell? ⟨bb, ob + K, none⟩ = some (.int .i64 (T K)) ∧ cut < T K ∧ (K : Int) < (N : Int)) ∨ (¬ (K : Int) < (N : Int) ∧ decide ((K : Int) < (N : Int)) = false) := by
            by_cases hr : 0 < r
            · obtain ⟨bb, ob, hb, hcb⟩ := HT2.out.cel (by omega)
              exact .inl ⟨bb, ob, hb, hcb K (by omega), HK'.out hr, by omega⟩
            · exact .inr ⟨by omega, by simp; omega⟩
          rcases hway with ⟨bb, ob, rfl, hcell, hgt, hji⟩ | ⟨hji, hjd⟩
          all_goals as_aux_lemma =>
            go_wp2_with fail
            refine (new_any _ _ _ _ _ first I T _ HA2.out HT2.out (by omega)).mono ?_
            rintro e w4 ⟨p, g, rfl, hAg, hB4, hgl, hpl⟩
            have HAg : Hid (AgesAt w4 p g first 0 N 0 I T) := hAg
            have HB4 : Hid (Below wc.heap.size wc w4) := hB4
            clear hAg hB4
            go_wp2
            go_loopw [16] (fun i wr => ∃ j : Nat, j ≤ K ∧ i = .int .i64 j ∧ (∃ off, AgesAt wr p g (first + j) off (N - j) j I T) ∧ Below wc.heap.size wc wr) (fun i _ => K - (intOf i).toNat)
            case atStart => exact ⟨0, Nat.zero_le _, rfl, ⟨0, by simpa using HAg.out⟩, HB4.out⟩
            case round =>
              obtain ⟨i, hi, rfl, ⟨off, hAi⟩, hBi⟩ := hrel
              clear HAg HB4
              have hszr : wc.heap.size ≤ wr.heap.size := hBi.size
              by_cases hlt3 : i < K
              · as_aux_lemma =>
                obtain ⟨m, hm⟩ : ∃ m, N - i = m + 1 := ⟨N - i - 1, by omega⟩
                rw [hm] at hAi
                have hTi := HK.out i hlt3
                have hmm : m ≤ 65536 := by omega
                have HMI : Hid (m = N - (i + 1)) := by show _ = _; omega
                clear hm
                go_wp2_with fail
                refine (exp_yes p g off m i (first + i) cut I T _ hAi (by omega) (by omega) (by omega) hTi).mono ?_
                rintro e w5 ⟨rfl, off', hA5, hk5⟩
                have HB5 : Hid (Below wc.heap.size wc w5) := hBi.trans (hk5.below (by omega) hpl hgl)
                have hsz5 : wc.heap.size ≤ w5.heap.size := HB5.out.size
                have HE : Hid (∀ o nq, AgesAt ((w5.alloc o).drewN nq) p g (first + ((i + 1 : Nat) : Int)) off' (N - (i + 1)) (i + 1) I T) := fun o nq => by
                  have h := hA5.later (below_drewN ((Below.refl _ _).alloc (Nat.le_refl _) o) nq)
                  rw [HMI.out] at h
                  rw [show first + ((i + 1 : Nat) : Int) = first + i + 1 by omega]
                  exact h
                have HBE : Hid (∀ o nq, Below wc.heap.size wc ((w5.alloc o).drewN nq)) := fun o nq => below_drewN (HB5.out.alloc hsz5 o) nq
                obtain ⟨ba, oa, ha, hca⟩ := (HA2.out.later HB5.out).cel (by omega)
                obtain ⟨be, oe, he, hce⟩ := (HT2.out.later HB5.out).cel (by omega)
                have c0 := hca i (by omega)
                have c1' := hce i (by omega)
                subst ha
                first | subst he | (simp only [Option.some.injEq, Addr.mk.injEq, and_true] at he; obtain ⟨rfl, rfl⟩ := he)
                have hlb := World.block_lt_of_cell? w5 _ c0
                have hle := World.block_lt_of_cell? w5 _ c1'
                simp only at hlb hle
                clear hca hce HA2 HT2 hA5 hk5 hAi hBi
                generalize I i = s at *
                generalize T i = t at *
                have hii : (i : Int) < (N : Int) := by omega
                go_wp2
                go_quiet (fail)
                go_wp2
                go_roundw
                case rel => exact ⟨i + 1, by omega, by go_num, ⟨off', HE.out _ _⟩, HBE.out _ _⟩
                case measure => simp [intOf]; omega
              · obtain rfl : K = i := by omega
                have HAK : Hid (AgesAt wr p g (first + K) off r K I T) := by
                  have h := hAi
                  rw [show N - K = r by omega] at h
                  exact h
                have HBi : Hid (Below wc.heap.size wc wr) := hBi
                clear hAi hBi hi hlt3
                go_wp2_with fail
                refine (exp_no p g off r K _ cut I T _ HAK.out (by omega) HK'.out).mono ?_
                rintro e w5 ⟨rfl, hb5⟩
                have HB5 : Hid (Below wc.heap.size wc w5) := HBi.out.trans (hb5.mono hszr)
                have hsz5 : wc.heap.size ≤ w5.heap.size := HB5.out.size
                have HA6 : Hid (∀ o, AgesAt (w5.alloc o) p g (first + K) off r K I T) := fun o => (HAK.out.later hb5).later ((Below.refl _ _).alloc (Nat.le_refl _) o)
                have HB6 : Hid (∀ o, Below wc.heap.size wc (w5.alloc o)) := fun o => HB5.out.alloc hsz5 o
                clear hb5
                go_wp2_with fail
                refine (len_any p g off r K _ I T _ (HA6.out _)).mono ?_
                rintro e w6 ⟨rfl, rfl⟩
                have hq : ((r : Int) != (N : Int) - (K : Int)) = false := by rw [bne_eq_false_iff_eq]; omega
                go_wp2
                go_loopw [21] (fun i wr => ∃ j : Nat, j ≤ r ∧ i = .int .i64 j ∧ AgesAt wr p g (first + K) off r K I T ∧ Below wc.heap.size wc wr) (fun i _ => r - (intOf i).toNat)
                case atStart => exact ⟨0, Nat.zero_le _, rfl, HA6.out _, HB6.out _⟩
                case round =>
                  obtain ⟨j, hj, rfl, hAj, hBj⟩ := hrel
                  have hszj : wc.heap.size ≤ wr.heap.size := hBj.size
                  by_cases hlt4 : j < r
                  · first | (exfalso; omega) | skip
                    all_goals
                      have hji4 : (j : Int) < (N : Int) - (K : Int) := by omega
                      go_wp2_with fail
                      refine (at_any p g off r K j _ I T _ hAj hlt4 (by omega)).mono ?_
                      rintro e w7 ⟨rfl, hb7⟩
                      have HB7 : Hid (Below wc.heap.size wc w7) := hBj.trans (hb7.mono hszj)
                      have hsz7 : wc.heap.size ≤ w7.heap.size := HB7.out.size
                      have HE : Hid (∀ o nq, AgesAt ((w7.alloc o).drewN nq) p g (first + K) off r K I T) := fun o nq => (hAj.later hb7).later (below_drewN ((Below.refl _ _).alloc (Nat.le_refl _) o) nq)
                      have HBE : Hid (∀ o nq, Below wc.heap.size wc ((w7.alloc o).drewN nq)) := fun o nq => below_drewN (HB7.out.alloc hsz7 o) nq
                      obtain ⟨ba, oa, ha, hca⟩ := (HA2.out.later HB7.out).cel (by omega)
                      obtain ⟨be, oe, he, hce⟩ := (HT2.out.later HB7.out).cel (by omega)
                      have c0 := hca (K + j) (by omega)
                      have c1' := hce (K + j) (by omega)
                      subst ha
                      first | subst he | (simp only [Option.some.injEq, Addr.mk.injEq, and_true] at he; obtain ⟨rfl, rfl⟩ := he)
                      have hlb := World.block_lt_of_cell? w7 _ c0
                      have hle := World.block_lt_of_cell? w7 _ c1'
                      simp only at hlb hle
                      clear hca hce HA2 HT2 hAj hBj hb7 HAK HA6 HB6
                      generalize I (K + j) = s at *
                      generalize T (K + j) = t at *
                      have hii : (K : Int) + (j : Int) < (N : Int) := by omega
                      go_wp2
                      go_quiet (fail)
                      go_wp2
                      go_roundw
                      case rel => first | exact ⟨j + 1, by omega, by go_num, HE.out _ _, HBE.out _ _⟩ | ((repeat apply Exists.intro); refine ⟨⟨j + 1, by omega, ?_, HE.out _ _, HBE.out _ _⟩, rfl⟩; go_num)
                      case measure => simp [intOf]; omega
                  · have hji4 : ¬ (j : Int) < (N : Int) - (K : Int) := by omega
                    have HBF : Hid (Below w'.heap.size w' wr) := HB2.out.trans (hBj.mono hsz2)
                    go_wp2_with fail
                    refine (first_any p g off r K _ I T _ hAj).mono ?_
                    rintro e w7 ⟨rfl, rfl⟩
                    go_wp2
                    go_ret
                    exact ⟨rfl, HBF.out⟩

theorem least_late (T : Nat → Int) (cut : Int) (N : Nat) : ∃ K r, N ≤ K + r ∧ K + r ≤ N ∧ (∀ j, j < K → T j ≤ cut) ∧ (0 < r → cut < T K) := by
  induction N with
  | zero => exact ⟨0, 0, by omega, by omega, fun j hj => absurd hj (by omega), fun h => absurd h (by omega)⟩
  | succ N ih =>
    obtain ⟨K, r, h1, h2, h3, h4⟩ := ih
    by_cases hr : 0 < r
    · exact ⟨K, r + 1, by omega, by omega, h3, fun _ => h4 hr⟩
    · by_cases hT : T N ≤ cut
      · refine ⟨N + 1, 0, by omega, by omega, fun j hj => ?_, fun h => absurd h (by omega)⟩
        by_cases hj' : j = N
        · rw [hj']; exact hT
        · exact h3 j (by omega)
      · exact ⟨N, 1, by omega, by omega, fun j hj => h3 j (by omega), fun _ => by omega⟩

set_option maxRecDepth 100000 in
set_option maxHeartbeats 1000000 in
theorem pf_big (a b : Option Addr) (c c' N n' : Nat) (first cut : Int) (I : Nat → ByteArray) (w : World)
    (h : Rf w a N (fun j => .string (I j))) (hm : N ≤ 9223372036854775807) (hn : 65536 < N ∨ (N ≤ 65536 ∧ 65536 < n')) :
    Calls Try.prog 3 #[.slice a N c, .slice b n' c', .int .i64 first, .int .i64 cut] w fun e w' => e = .returned (.bool true) ∧ Below w.heap.size w w' := by
  have hc : (65536 : Int) < (N : Int) ∨ (¬ (65536 : Int) < (N : Int) ∧ (65536 : Int) < (n' : Int)) := by omega
  clear hn
  rcases hc with g1 | ⟨g1, g2⟩
  all_goals
    go_enter Try.func3, Try.ntmps3
    go_wp2_with fail
    refine (bytes5_any _ _ _ _ _ _ I _ _ _ h (by omega)).mono ?_
    rintro e w' ⟨⟨rb, rfl⟩, rfl⟩
    clear h
    cases rb
    all_goals
      go_wp2
      go_ret
      exact ⟨rfl, Below.refl _ _⟩

theorem pf_any (a b : Option Addr) (c c' N n' : Nat) (first cut : Int) (I : Nat → ByteArray) (T : Nat → Int) (w : World)
    (h : Rf w a N (fun j => .string (I j))) (h' : Rf w b n' (fun j => .int .i64 (T j))) (hnone : a = none → N = 0 ∧ c = 0) (hnone' : b = none → n' = 0 ∧ c' = 0) (hm : N ≤ 9223372036854775807) :
    Calls Try.prog 3 #[.slice a N c, .slice b n' c', .int .i64 first, .int .i64 cut] w fun e w' => e = .returned (.bool true) ∧ Below w.heap.size w w' := by
  by_cases g1 : 65536 < N
  · exact pf_big a b c c' N n' first cut I w h hm (.inl g1)
  by_cases g2 : 65536 < n'
  · exact pf_big a b c c' N n' first cut I w h hm (.inr ⟨by omega, g2⟩)
  obtain ⟨K, r, h1, h2, h3, h4⟩ := least_late T cut N
  exact pf_main a b c c' N n' K r first cut I T w h h' hnone hnone' (by omega) (by omega) h1 h2 h3 h4

end Go.Proofs.Qxb6623457a
