/-
  THE WALK of FnExpiredTwoCutoffsDrainAsTheGreater (4).
-/
import Derived.Test.Qxb6623457aDrain
namespace Go.Proofs.Qxb6623457a
open Go.RowKit
set_option linter.unusedSimpArgs false
set_option linter.unusedVariables false

set_option maxRecDepth 100000 in
set_option maxHeartbeats 4000000 in
theorem tc_main (a b : Option Addr) (c c' N n' K1 M R : Nat) (first x1 x2 hi : Int) (I : Nat → ByteArray) (T : Nat → Int) (w : World)
    (h : Rf w a N (fun j => .string (I j))) (h' : Rf w b n' (fun j => .int .i64 (T j))) (hn : N ≤ 65536) (hn' : n' ≤ 65536)
    (hK1 : K1 ≤ M) (hR1 : N ≤ M + R) (hR2 : M + R ≤ N)
    (t1 : ∀ j, 0 ≤ j → j < K1 → T j ≤ x1) (t1' : K1 < N → x1 < T K1) (t2 : ∀ j, K1 ≤ j → j < M → T j ≤ x2) (t2' : M < N → x2 < T M) (t3 : ∀ j, 0 ≤ j → j < M → T j ≤ hi) (t3' : M < N → hi < T M)
    (hhi : (x1 < x2 ∧ hi = x2) ∨ (¬ x1 < x2 ∧ hi = x1)) :
    Calls Try.prog 4 #[.slice a N c, .slice b n' c', .int .i64 first, .int .i64 x1, .int .i64 x2] w fun e w' => e = .returned (.bool true) ∧ Below w.heap.size w w' := by
  obtain ⟨i9, hi9, hz9, hs9, hb9⟩ := info_parts info9
  obtain ⟨i2, hi2, hz2, hs2, hb2⟩ := info_parts info2
  have HT1 : Hid (∀ j, 0 ≤ j → j < K1 → T j ≤ x1) := t1
  have HT1' : Hid (K1 < N → x1 < T K1) := t1'
  have HT2 : Hid (∀ j, K1 ≤ j → j < M → T j ≤ x2) := t2
  have HT2' : Hid (M < N → x2 < T M) := t2'
  have HT3 : Hid (∀ j, 0 ≤ j → j < M → T j ≤ hi) := t3
  have HT3' : Hid (M < N → hi < T M) := t3'
  have HHI : Hid ((x1 < x2 ∧ hi = x2) ∨ (¬ x1 < x2 ∧ hi = x1)) := hhi
  have g1 : ¬ (65536 : Int) < (N : Int) := by omega
  have g2 : ¬ (65536 : Int) < (n' : Int) := by omega
  clear t1 t1' t2 t2' t3 t3' hhi
  go_enter Try.func4, Try.ntmps4
  go_wp2_with fail
  refine (bytes11_any _ _ _ _ _ _ I _ _ _ _ h (by omega)).mono ?_
  rintro e w' ⟨⟨rb, rfl⟩, rfl⟩
  cases rb
  · go_wp2
    go_ret
    exact ⟨rfl, Below.refl _ _⟩
  have HA : Hid (Rf w' a N (fun j => .string (I j))) := h
  have HT : Hid (Rf w' b n' (fun j => .int .i64 (T j))) := h'
  clear h h'
  go_upto_if 40 with fail
  go_cut [0] (fun s0 wc => ∃ a1 c1, s0 = .slice a1 N c1 ∧ Rf wc a1 N (fun j => .string (I j)) ∧ Below w'.heap.size w' wc)
  case first =>
    cases a with
    | none =>
      go_wp2_with fail
      go_meet
      exact ⟨none, c, rfl, HA.out, Below.refl _ _⟩
    | some ad => as_aux_lemma =>
      obtain ⟨X, hX⟩ : ∃ X, X = (List.range N).map (fun j => Value.string (I j)) := ⟨_, rfl⟩
      have HX : Hid (X = (List.range N).map (fun j => Value.string (I j))) := hX
      have HX1 : Hid (∀ v ∈ X, v.oneCell' = true) := by
        rw [hX]; intro v hv
        obtain ⟨_, _, rfl⟩ := List.mem_map.1 hv
        rfl
      have HC : Hid (∀ j v, X[j]? = some v → w'.cell? (ad.add j) = some v) := by rw [hX]; exact cells_of_rf HA.out
      have HXl : Hid (X.length = N) := by show _ = _; rw [hX]; simp
      clear hX
      go_wp2_with (at_make; go_must (refine wpList_make_full _ rfl _ _ 22 rfl w'.heap.size 9 i9 (Value.string ByteArray.empty) 1 Try.underlying22 hi9 hz9 hs9 .i64 .i64 _ _ N rfl rfl rfl rfl (by rw [hb9]; omega) (by unfold maxLen; omega) (Nat.le_refl _) ?_))
      intro w1 hown hgrow
      obtain ⟨Z, hZ⟩ : ∃ Z, Z = (madeCells #[Value.string ByteArray.empty] N).toList := ⟨_, rfl⟩
      have hown2 : w1.ownsRow w'.heap.size 9 1 (.slice (some ⟨w'.heap.size, 0, none⟩) N N) N Z := by rw [hZ]; simpa using hown
      have HB : Hid (w1.heap[w'.heap.size]? = some (.cells Z.toArray 9 (0, 0))) := own_block hown2
      have HZl : Hid (Z.length = N) := by have := hown2.1; show _ = _; omega
      have HW : Hid (Below w'.heap.size w' w1) := below_of_grown hgrow (Nat.le_refl _) (fun k hk => by cases hk)
      have HC1 : Hid (∀ j v, X[j]? = some v → w1.cell? (ad.add j) = some v) := fun j v hv => by
        have h1 := HC.out j v hv
        rw [HW.out.cell (World.block_lt_of_cell? w' _ h1)]
        exact h1
      clear hown hown2 hgrow hZ
      go_wp2_with (refine wpList_copy_splice rfl (.tmp 44) (.tmp 45) 22 22 rfl 9 Try.underlying22 (by rw [hi9]; simp [hs9]) _ _ _ _ _ _ rfl rfl w'.heap.size 0 Z 9 HB.out X (by rw [HXl.out]; exact (Nat.min_self N).symm) (fun h0 => ⟨rfl, _, rfl, HC1.out⟩) (by rw [HXl.out, HZl.out]; omega) HX1.out w'.heap.size w' HW.out (Nat.le_refl _) ?_)
      intro w2 HG2 hB2
      have HO : Hid (Rf w2 (some ⟨w'.heap.size, 0, none⟩) N (fun j => Value.string (I j))) := by
        have h2 := HG2.out
        rw [splice_whole _ _ (by rw [HXl.out, HZl.out])] at h2
        have h3 := own_mk h2 (Nat.le_refl w'.heap.size) HXl.out (by unfold maxLen; omega)
        rw [HX.out] at h3
        exact Rf.of_own h3
      have HB2 : Hid (Below w'.heap.size w' w2) := hB2
      clear HG2 hB2
      go_wp2_with fail
      go_meet
      exact ⟨_, _, rfl, HO.out, HB2.out⟩
  case rest =>
    obtain ⟨a1, c1, rfl, hA1, hB1⟩ := hcut
    have HA1 : Hid (Rf wc a1 N (fun j => .string (I j))) := hA1
    have HB1 : Hid (Below w'.heap.size w' wc) := hB1
    have HTb : Hid (Rf wc b n' (fun j => .int .i64 (T j))) := HT.out.later hB1
    have hsz1 : w'.heap.size ≤ wc.heap.size := hB1.size
    clear hA1 hB1 HA HT
    obtain ⟨wa, hwa⟩ : ∃ wa, wa = wc := ⟨_, rfl⟩
    subst hwa
    go_upto_if 49 with fail
    go_cut [1] (fun s0 wc => ∃ b1 d1, s0 = .slice b1 n' d1 ∧ Rf wc b1 n' (fun j => .int .i64 (T j)) ∧ Below wa.heap.size wa wc)
    case first =>
      cases b with
      | none =>
        go_wp2_with fail
        go_meet
        exact ⟨none, c', rfl, HTb.out, Below.refl _ _⟩
      | some ad => as_aux_lemma =>
        obtain ⟨X, hX⟩ : ∃ X, X = (List.range n').map (fun j => Value.int .i64 (T j)) := ⟨_, rfl⟩
        have HX : Hid (X = (List.range n').map (fun j => Value.int .i64 (T j))) := hX
        have HX1 : Hid (∀ v ∈ X, v.oneCell' = true) := by
          rw [hX]; intro v hv
          obtain ⟨_, _, rfl⟩ := List.mem_map.1 hv
          rfl
        have HC : Hid (∀ j v, X[j]? = some v → wa.cell? (ad.add j) = some v) := by rw [hX]; exact cells_of_rf HTb.out
        have HXl : Hid (X.length = n') := by show _ = _; rw [hX]; simp
        clear hX
        go_wp2_with (at_make; go_must (refine wpList_make_full _ rfl _ _ 23 rfl wa.heap.size 2 i2 (Value.int .i64 0) 1 Try.underlying23 hi2 hz2 hs2 .i64 .i64 _ _ n' rfl rfl rfl rfl (by rw [hb2]; omega) (by unfold maxLen; omega) (Nat.le_refl _) ?_))
        intro w1 hown hgrow
        obtain ⟨Z, hZ⟩ : ∃ Z, Z = (madeCells #[Value.int .i64 0] n').toList := ⟨_, rfl⟩
        have hown2 : w1.ownsRow wa.heap.size 2 1 (.slice (some ⟨wa.heap.size, 0, none⟩) n' n') n' Z := by rw [hZ]; simpa using hown
        have HB : Hid (w1.heap[wa.heap.size]? = some (.cells Z.toArray 2 (0, 0))) := own_block hown2
        have HZl : Hid (Z.length = n') := by have := hown2.1; show _ = _; omega
        have HW : Hid (Below wa.heap.size wa w1) := below_of_grown hgrow (Nat.le_refl _) (fun k hk => by cases hk)
        have HC1 : Hid (∀ j v, X[j]? = some v → w1.cell? (ad.add j) = some v) := fun j v hv => by
          have h1 := HC.out j v hv
          rw [HW.out.cell (World.block_lt_of_cell? wa _ h1)]
          exact h1
        clear hown hown2 hgrow hZ
        go_wp2_with (refine wpList_copy_splice rfl (.tmp 53) (.tmp 54) 23 23 rfl 2 Try.underlying23 (by rw [hi2]; simp [hs2]) _ _ _ _ _ _ rfl rfl wa.heap.size 0 Z 2 HB.out X (by rw [HXl.out]; exact (Nat.min_self n').symm) (fun h0 => ⟨rfl, _, rfl, HC1.out⟩) (by rw [HXl.out, HZl.out]; omega) HX1.out wa.heap.size wa HW.out (Nat.le_refl _) ?_)
        intro w2 HG2 hB2
        have HO : Hid (Rf w2 (some ⟨wa.heap.size, 0, none⟩) n' (fun j => Value.int .i64 (T j))) := by
          have h2 := HG2.out
          rw [splice_whole _ _ (by rw [HXl.out, HZl.out])] at h2
          have h3 := own_mk h2 (Nat.le_refl wa.heap.size) HXl.out (by unfold maxLen; omega)
          rw [HX.out] at h3
          exact Rf.of_own h3
        have HB2 : Hid (Below wa.heap.size wa w2) := hB2
        clear HG2 hB2
        go_wp2_with fail
        go_meet
        exact ⟨_, _, rfl, HO.out, HB2.out⟩
    case rest =>
      obtain ⟨b1, d1, rfl, hTc, hB2⟩ := hcut
      have HA2 : Hid (Rf wc a1 N (fun j => .string (I j))) := HA1.out.later hB2
      have HTc : Hid (Rf wc b1 n' (fun j => .int .i64 (T j))) := hTc
      have HB2 : Hid (Below w'.heap.size w' wc) := HB1.out.trans (hB2.mono hsz1)
      have hsz2 : w'.heap.size ≤ wc.heap.size := HB2.out.size
      clear hTc hB2 HA1 HTb HB1 hsz1 hi9 hz9 hs9 hb9 hi2 hz2 hs2 hb2
      obtain ⟨wb, hwb⟩ : ∃ wb, wb = wc := ⟨_, rfl⟩
      subst hwb
      by_cases h8 : (1048576 : Int) < 8 * (N : Int) + 8 * (n' : Int)
      · go_wp2
        go_ret
        exact ⟨rfl, HB2.out⟩
      go_wp2
      go_loop [13, 14] (fun t i => ∃ k : Nat, k ≤ N ∧ i = .int .i64 k ∧ ∃ z : Int, t = .int .i64 z) (fun _ i => N - (intOf i).toNat)
      case atStart => exact ⟨0, Nat.zero_le _, rfl, _, rfl⟩
      case round =>
        obtain ⟨k, hk, rfl, z, rfl⟩ := hrel
        by_cases hlt : k < N
        · as_aux_lemma =>
          obtain ⟨ba, oa, ha, hca⟩ := HA2.out.cel (by omega)
          have hcell := hca k hlt
          subst ha
          clear hca HA2 HTc
          generalize I k = s at *
          have hki : (k : Int) < (N : Int) := by omega
          go_wp2
          · go_ret
            exact ⟨rfl, HB2.out⟩
          · go_round
            case rel => exact ⟨k + 1, by omega, by go_num, _, rfl⟩
            case measure => simp [intOf]; omega
        have hge : ¬ (k : Int) < (N : Int) := by omega
        by_cases hnn : N = n'
        case neg =>
          have hne : ((N : Int) != (n' : Int)) = true := by rw [bne_iff_ne]; omega
          clear hnn
          go_wp2
          go_ret
          exact ⟨rfl, HB2.out⟩
        subst hnn
        by_cases hf0 : first < 0
        · go_wp2
          go_ret
          exact ⟨rfl, HB2.out⟩
        by_cases hf1 : 1073741824 < first
        · go_wp2
          go_ret
          exact ⟨rfl, HB2.out⟩
        clear hk hlt
        go_upto_if 97 with fail
        go_cut [16] (fun s wc => s = .int .i64 hi ∧ wc = wb)
        case first => as_aux_lemma =>
          rcases HHI.out with ⟨q1, q2⟩ | ⟨q1, q2⟩
          · have HQ : Hid (hi = x2) := q2
            clear q2
            go_wp2_with fail
            go_meet
            exact ⟨by rw [HQ.out], rfl⟩
          · have HQ : Hid (hi = x1) := q2
            clear q2
            go_wp2_with fail
            go_meet
            exact ⟨by rw [HQ.out], rfl⟩
        case rest => as_aux_lemma =>
          obtain ⟨rfl, rfl⟩ := hcut
          obtain ⟨i0, hi0, hz0, hz1, hz2⟩ := info_parts info28
          go_wp2_with fail
          refine (new_any _ _ _ _ _ first I T _ HA2.out HTc.out (by omega)).mono ?_
          rintro e w4 ⟨p, g, rfl, hAg, hB4, hgl, hpl⟩
          have HAg : Hid (Ab w4 p g first N 0 I T) := ⟨0, by simpa using hAg⟩
          have HB4 : Hid (Below wc.heap.size wc w4) := hB4
          have hsz4 : wc.heap.size ≤ w4.heap.size := hB4.size
          have hpu := hAg.pl
          have hgu := hAg.gl
          clear hAg hB4
          go_wp2_with (at_make; go_must (refine wpList_make_own _ rfl _ _ 34 rfl w4.heap.size 28 i0 (.agg #[.string ByteArray.empty, .int .i64 0]) 2 Try.underlying34 hi0 hz0 hz1 .i64 .i64 _ N rfl rfl rfl (by rw [hz2]; omega) (by unfold maxLen; omega) (Nat.le_refl _) ?_))
          intro w5 hown5 hg5
          have HQ5 : Hid (Acc w5 w4.heap.size w4.heap.size 0 N I T) := hown5
          have hB5 : Below w4.heap.size w4 w5 := below_of_grown hg5 (Nat.le_refl _) (fun k hk => by cases hk)
          have HA5 : Hid (Ab w5 p g first N 0 I T) := HAg.out.later hB5
          have HB5 : Hid (Below wc.heap.size wc w5) := HB4.out.trans (hB5.mono hsz4)
          have hsz5 : w4.heap.size ≤ w5.heap.size := hB5.size
          clear hown5 hg5 hB5 HAg HB4
          go_wp2_with fail
          refine (drain_any w4.heap.size p g w4.heap.size 0 N K1 N N first x1 I T _ HA5.out HQ5.out (by omega) (by omega) (by omega) (by omega) (Nat.le_refl _) (Nat.le_refl _) (by omega) (by omega) (by omega) HT1.out HT1'.out).mono ?_
          rintro e w6 ⟨rfl, hQ6, hA6, hK6⟩
          have HQ6 : Hid (Acc w6 w4.heap.size w4.heap.size K1 N I T) := hQ6
          have HA6 : Hid (Ab w6 p g first N K1 I T) := hA6
          have HB6 : Hid (Below wc.heap.size wc w6) := HB5.out.trans (hK6.below (by omega) hpl hgl hsz4)
          have hsz6 : w5.heap.size ≤ w6.heap.size := hK6.size
          clear hQ6 hA6 hK6 HQ5 HA5 HB5
          go_wp2_with fail
          refine (drain_any w4.heap.size p g w4.heap.size K1 N M N N first x2 I T _ HA6.out HQ6.out (by omega) (by omega) (by omega) (by omega) (Nat.le_refl _) (Nat.le_refl _) (by omega) (by omega) (by omega) HT2.out HT2'.out).mono ?_
          rintro e w7 ⟨rfl, hQ7, hA7, hK7⟩
          have HQ7 : Hid (Acc w7 w4.heap.size w4.heap.size M N I T) := hQ7
          have HA7 : Hid (Ab w7 p g first N M I T) := hA7
          have HB7 : Hid (Below wc.heap.size wc w7) := HB6.out.trans (hK7.below (by omega) hpl hgl hsz4)
          have hsz7 : w6.heap.size ≤ w7.heap.size := hK7.size
          have hql : w4.heap.size < w7.heap.size := hQ7.lt
          clear hQ7 hA7 hK7 HQ6 HA6 HB6
          go_wp2_with fail
          refine (new_any _ _ _ _ _ first I T _ (HA2.out.later HB7.out) (HTc.out.later HB7.out) (by omega)).mono ?_
          rintro e w8 ⟨p2, g2, rfl, hAg, hB8, hgl2, hpl2⟩
          have HAg : Hid (Ab w8 p2 g2 first N 0 I T) := ⟨0, by simpa using hAg⟩
          have HQ8 : Hid (Acc w8 w4.heap.size w4.heap.size M N I T) := HQ7.out.later hB8
          have HA8 : Hid (Ab w8 p g first N M I T) := HA7.out.later hB8
          have HB8 : Hid (Below wc.heap.size wc w8) := HB7.out.trans (hB8.mono (by omega))
          have hsz8 : w7.heap.size ≤ w8.heap.size := hB8.size
          have hpu2 := hAg.pl
          have hgu2 := hAg.gl
          clear hAg hB8 HQ7 HA7 HB7
          go_wp2_with (at_make; go_must (refine wpList_make_own _ rfl _ _ 34 rfl w8.heap.size 28 i0 (.agg #[.string ByteArray.empty, .int .i64 0]) 2 Try.underlying34 hi0 hz0 hz1 .i64 .i64 _ N rfl rfl rfl (by rw [hz2]; omega) (by unfold maxLen; omega) (Nat.le_refl _) ?_))
          intro w9 hown9 hg9
          have HR9 : Hid (Acc w9 w8.heap.size w8.heap.size 0 N I T) := hown9
          have hB9 : Below w8.heap.size w8 w9 := below_of_grown hg9 (Nat.le_refl _) (fun k hk => by cases hk)
          have HP9 : Hid (Ab w9 p2 g2 first N 0 I T) := HAg.out.later hB9
          have HQ9 : Hid (Acc w9 w4.heap.size w4.heap.size M N I T) := HQ8.out.later hB9
          have HA9 : Hid (Ab w9 p g first N M I T) := HA8.out.later hB9
          have HB9 : Hid (Below wc.heap.size wc w9) := HB8.out.trans (hB9.mono (by omega))
          have hsz9 : w8.heap.size ≤ w9.heap.size := hB9.size
          clear hown9 hg9 hB9 HAg HB8 HQ8 HA8
          go_wp2_with fail
          refine (drain_any w8.heap.size p2 g2 w8.heap.size 0 N M N N first hi I T _ HP9.out HR9.out (by omega) (by omega) (by omega) (by omega) (Nat.le_refl _) (Nat.le_refl _) (by omega) (by omega) (by omega) HT3.out HT3'.out).mono ?_
          rintro e wd ⟨rfl, hR10, hP10, hK10⟩
          have HR10 : Hid (Acc wd w8.heap.size w8.heap.size M N I T) := hR10
          obtain ⟨offb, HP10⟩ : ∃ off, Hid (AgesAt wd p2 g2 (first + M) off R M I T) := by
            obtain ⟨off, h⟩ := hP10
            rw [show N - M = R by omega] at h
            exact ⟨off, h⟩
          have HQ10 : Hid (Acc wd w4.heap.size w4.heap.size M N I T) := HQ9.out.same (hK10.block _ (by omega) (by omega) (by omega) (by omega))
          have hA10 : Ab wd p g first N M I T := HA9.out.same (hK10.block _ (by omega) (by omega) (by omega) (by omega)) (hK10.block _ (by omega) (by omega) (by omega) (by omega))
          obtain ⟨offa, HA10⟩ : ∃ off, Hid (AgesAt wd p g (first + M) off R M I T) := by
            obtain ⟨off, h⟩ := hA10
            rw [show N - M = R by omega] at h
            exact ⟨off, h⟩
          have HB10 : Hid (Below wc.heap.size wc wd) := HB9.out.trans (hK10.below (by omega) (by omega) (by omega) (by omega))
          have HA11 : Hid (Rf wd a1 N (fun j => .string (I j))) := HA2.out.later HB10.out
          have HT11 : Hid (Rf wd b1 N (fun j => .int .i64 (T j))) := HTc.out.later HB10.out
          have HB11 : Hid (Below w'.heap.size w' wd) := HB2.out.trans (HB10.out.mono hsz2)
          clear hR10 hP10 hK10 hA10 HR9 HP9 HQ9 HA9 HB9 HB10 HA2 HTc HB2 hpu hgu hpl hgl hpu2 hgu2 hpl2 hgl2 hsz4 hsz5 hsz6 hsz7 hsz8 hsz9 hql
          obtain ⟨q, hq⟩ : ∃ q, q = w4.heap.size := ⟨_, rfl⟩
          obtain ⟨q2, hq2⟩ : ∃ q, q = w8.heap.size := ⟨_, rfl⟩
          rw [← hq, ← hq2]
          rw [← hq2] at HR10
          rw [← hq] at HQ10
          clear hq hq2
          go_wp2
          go_loopw [21] (fun i wr => ∃ j : Nat, j ≤ M ∧ i = .int .i64 j ∧ (∃ d, wr = wd.drewN d)) (fun i _ => M - (intOf i).toNat)
          case atStart => exact ⟨0, Nat.zero_le _, rfl, ⟨0, rfl⟩⟩
          case round =>
            obtain ⟨j, hj, rfl, ⟨d, rfl⟩⟩ := hrel
            by_cases hlt : j < M
            · as_aux_lemma =>
              obtain ⟨e0, e1⟩ := HQ10.out.cells hlt
              obtain ⟨f0, f1⟩ := HR10.out.cells hlt
              have hji : (j : Int) < (M : Int) := by omega
              generalize I j = s at *
              generalize T j = t at *
              clear HQ10 HR10 HP10 HA10 HA11 HT11 HT1 HT1' HT2 HT2' HT3 HT3' HHI
              go_wp2
              go_quiet (fail)
              go_wp2
              go_roundw
              case rel => exact ⟨j + 1, by omega, by go_num, ⟨_, rfl⟩⟩
              case measure => simp [intOf]; omega
            have hji : ¬ (j : Int) < (M : Int) := by omega
            have hMN : ¬ (N : Int) < (M : Int) := by omega
            clear hj hlt
            go_wp2
            go_loopw [23] (fun i wr => ∃ j : Nat, j ≤ M ∧ i = .int .i64 j ∧ (∃ d, wr = wd.drewN d)) (fun i _ => M - (intOf i).toNat)
            case atStart => exact ⟨0, Nat.zero_le _, rfl, ⟨_, rfl⟩⟩
            case round =>
              obtain ⟨l, hl, rfl, ⟨d2, rfl⟩⟩ := hrel
              by_cases hlt : l < M
              · as_aux_lemma =>
                obtain ⟨f0, f1⟩ := HR10.out.cells hlt
                obtain ⟨ba, oa, ha, hca⟩ := HA11.out.cel (by omega)
                obtain ⟨be, oe, he, hce⟩ := HT11.out.cel (by omega)
                have c0 := hca l (by omega)
                have c1' := hce l (by omega)
                have hle := HT3.out l (by omega) hlt
                subst ha
                subst he
                have hli : (l : Int) < (M : Int) := by omega
                have hli2 : (l : Int) < (N : Int) := by omega
                clear hca hce HQ10 HR10 HP10 HA10 HA11 HT11 HT1 HT1' HT2 HT2' HT3 HT3' HHI
                generalize I l = s at *
                generalize T l = t at *
                go_wp2
                go_quiet (fail)
                go_wp2
                go_roundw
                case rel => exact ⟨l + 1, by omega, by go_num, ⟨_, rfl⟩⟩
                case measure => simp [intOf]; omega
              have hli : ¬ (l : Int) < (M : Int) := by omega
              clear hl hlt
              have hway : (∃ bb ob, b1 = some ⟨bb, ob, none⟩ ∧ wd.cell? ⟨bb, ob + M, none⟩ = some (.int .i64 (T M)) ∧ hi < T M ∧ (M : Int) < (N : Int)) ∨ (¬ (M : Int) < (N : Int) ∧ decide ((M : Int) < (N : Int)) = false) := by
                by_cases hr : 0 < R
                · obtain ⟨bb, ob, hb, hcb⟩ := HT11.out.cel (by omega)
                  exact .inl ⟨bb, ob, hb, hcb M (by omega), HT3'.out (by omega), by omega⟩
                · exact .inr ⟨by omega, by simp; omega⟩
              have hqq : ((R : Int) != (N : Int) - (M : Int)) = false := by rw [bne_eq_false_iff_eq]; omega
              have HPd : Hid (AgesAt (wd.drewN d2) p2 g2 (first + M) offb R M I T) := HP10.out.later (below_drewN (Below.refl _ _) d2)
              have HAd : Hid (AgesAt (wd.drewN d2) p g (first + M) offa R M I T) := HA10.out.later (below_drewN (Below.refl _ _) d2)
              have HBd : Hid (Below w'.heap.size w' (wd.drewN d2)) := below_drewN HB11.out d2
              clear HQ10 HR10 HP10 HA10 HA11 HT11 HT1 HT1' HT2 HT2' HT3 HT3' HHI HB11
              rcases hway with ⟨bb, ob, rfl, hcell, hgt, hji4⟩ | ⟨hji4, hjd⟩
              all_goals as_aux_lemma =>
                go_wp2_with fail
                refine (len_any p g offa R M _ I T _ HAd.out).mono ?_
                rintro e wx ⟨rfl, rfl⟩
                go_wp2_with fail
                refine (len_any p2 g2 offb R M _ I T _ HPd.out).mono ?_
                rintro e wx ⟨rfl, rfl⟩
                go_wp2_with fail
                refine (first_any p g offa R M _ I T _ HAd.out).mono ?_
                rintro e wx ⟨rfl, rfl⟩
                go_wp2_with fail
                refine (first_any p2 g2 offb R M _ I T _ HPd.out).mono ?_
                rintro e wx ⟨rfl, rfl⟩
                go_wp2
                go_ret
                exact ⟨rfl, HBd.out⟩

/-- the longest stretch, from k on, whose times are all at cut or before -/
theorem least_from (T : Nat → Int) (cut : Int) (N k : Nat) (hk : k ≤ N) : ∃ L, k ≤ L ∧ L ≤ N ∧ (∀ j, k ≤ j → j < L → T j ≤ cut) ∧ (L < N → cut < T L) := by
  obtain ⟨d, rfl⟩ : ∃ d, N = k + d := ⟨N - k, by omega⟩
  clear hk
  induction d with
  | zero => exact ⟨k, by omega, by omega, fun j h1 h2 => absurd h1 (by omega), fun h => absurd h (by omega)⟩
  | succ d ih =>
    obtain ⟨L, h1, h2, h3, h4⟩ := ih
    by_cases hL : L < k + d
    · exact ⟨L, h1, by omega, h3, fun _ => h4 hL⟩
    · by_cases hT : T (k + d) ≤ cut
      · refine ⟨k + (d + 1), by omega, by omega, fun j hj hj' => ?_, fun h => absurd h (by omega)⟩
        by_cases hjd : j = k + d
        · rw [hjd]; exact hT
        · exact h3 j hj (by omega)
      · refine ⟨L, h1, by omega, h3, fun _ => ?_⟩
        rw [show L = k + d by omega]
        omega

theorem two_cuts (T : Nat → Int) (x1 x2 : Int) (N : Nat) : ∃ K1 M hi, K1 ≤ M ∧ M ≤ N ∧ (∀ j, 0 ≤ j → j < K1 → T j ≤ x1) ∧ (K1 < N → x1 < T K1) ∧ (∀ j, K1 ≤ j → j < M → T j ≤ x2) ∧ (M < N → x2 < T M) ∧
    (∀ j, 0 ≤ j → j < M → T j ≤ hi) ∧ (M < N → hi < T M) ∧ ((x1 < x2 ∧ hi = x2) ∨ (¬ x1 < x2 ∧ hi = x1)) := by
  obtain ⟨K1, _, k2, k3, k4⟩ := least_from T x1 N 0 (by omega)
  obtain ⟨M, m1, m2, m3, m4⟩ := least_from T x2 N K1 k2
  by_cases hx : x1 < x2
  · refine ⟨K1, M, x2, m1, m2, k3, k4, m3, m4, fun j h0 hj => ?_, m4, .inl ⟨hx, rfl⟩⟩
    by_cases hjK : j < K1
    · have := k3 j h0 hjK; omega
    · exact m3 j (by omega) hj
  · refine ⟨K1, M, x1, m1, m2, k3, k4, m3, m4, fun j h0 hj => ?_, fun hM => ?_, .inr ⟨hx, rfl⟩⟩
    · by_cases hjK : j < K1
      · exact k3 j h0 hjK
      · have := m3 j (by omega) hj; omega
    · by_cases hKM : K1 < M
      · have h1 := m3 K1 (Nat.le_refl _) hKM
        have h2 := k4 (by omega)
        omega
      · rw [show M = K1 by omega]
        exact k4 (by omega)

set_option maxRecDepth 100000 in
set_option maxHeartbeats 1000000 in
theorem tc_big (a b : Option Addr) (c c' N n' : Nat) (first x1 x2 : Int) (I : Nat → ByteArray) (w : World)
    (h : Rf w a N (fun j => .string (I j))) (hm : N ≤ 9223372036854775807) (hn : 65536 < N ∨ (N ≤ 65536 ∧ 65536 < n')) :
    Calls Try.prog 4 #[.slice a N c, .slice b n' c', .int .i64 first, .int .i64 x1, .int .i64 x2] w fun e w' => e = .returned (.bool true) ∧ Below w.heap.size w w' := by
  have hc : (65536 : Int) < (N : Int) ∨ (¬ (65536 : Int) < (N : Int) ∧ (65536 : Int) < (n' : Int)) := by omega
  clear hn
  rcases hc with g1 | ⟨g1, g2⟩
  all_goals
    go_enter Try.func4, Try.ntmps4
    go_wp2_with fail
    refine (bytes11_any _ _ _ _ _ _ I _ _ _ _ h (by omega)).mono ?_
    rintro e w' ⟨⟨rb, rfl⟩, rfl⟩
    clear h
    cases rb
    all_goals
      go_wp2
      go_ret
      exact ⟨rfl, Below.refl _ _⟩

theorem tc_any (a b : Option Addr) (c c' N n' : Nat) (first x1 x2 : Int) (I : Nat → ByteArray) (T : Nat → Int) (w : World)
    (h : Rf w a N (fun j => .string (I j))) (h' : Rf w b n' (fun j => .int .i64 (T j))) (hnone : a = none → N = 0 ∧ c = 0) (hnone' : b = none → n' = 0 ∧ c' = 0) (hm : N ≤ 9223372036854775807) :
    Calls Try.prog 4 #[.slice a N c, .slice b n' c', .int .i64 first, .int .i64 x1, .int .i64 x2] w fun e w' => e = .returned (.bool true) ∧ Below w.heap.size w w' := by
  by_cases g1 : 65536 < N
  · exact tc_big a b c c' N n' first x1 x2 I w h hm (.inl g1)
  by_cases g2 : 65536 < n'
  · exact tc_big a b c c' N n' first x1 x2 I w h hm (.inr ⟨by omega, g2⟩)
  obtain ⟨K1, M, hi, h1, h2, h3, h4, h5, h6, h7, h8, h9⟩ := two_cuts T x1 x2 N
  exact tc_main a b c c' N n' K1 M (N - M) first x1 x2 hi I T w h h' (by omega) (by omega) h1 (by omega) (by omega) h3 h4 h5 h6 h7 h8 h9

end Go.Proofs.Qxb6623457a
