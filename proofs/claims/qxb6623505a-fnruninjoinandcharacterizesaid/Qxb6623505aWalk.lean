/-
  THE WALK of FnRunInJoinAndCharacterize (3).
-/
import Derived.Test.Qxb6623505aBase
namespace Go.Proofs.Qxb6623505a
open Go.RowKit
set_option linter.unusedSimpArgs false
set_option linter.unusedVariables false

theorem size23 : (Try.prog.info? 23).map (·.size) = some 256 := by kernel_rfl

/-- block g: N bytes, the first k of them written -/
def Filled (w : World) (g N k : Nat) (F : Nat → Nat) : Prop :=
  ∃ cur, w.heap[g]? = some (.cells cur 5 (0, 0)) ∧ cur.size = N ∧ ∀ j, j < k → cur[j]? = some (.int .u8 (F j : Int))

theorem Filled.cell {w : World} {g N k j : Nat} {F : Nat → Nat} (h : Filled w g N k F) (hj : j < N) : ∃ u, w.cell? ⟨g, j, none⟩ = some u := by
  obtain ⟨cur, hg, hs, hc⟩ := h
  exact ⟨cur[j], by rw [cell_of_row w g j cur 5 (0, 0) hg]; simp⟩
theorem Filled.free {w : World} {g N k : Nat} {F : Nat → Nat} (h : Filled w g N k F) (j : Nat) : w.frozen? ⟨g, j, none⟩ = false := by
  obtain ⟨cur, hg, hs, hc⟩ := h
  exact frozen_of_row w g j cur 5 hg
theorem Filled.lt {w : World} {g N k : Nat} {F : Nat → Nat} (h : Filled w g N k F) : g < w.heap.size := by
  obtain ⟨cur, hg, hs, hc⟩ := h
  exact (Array.getElem?_eq_some_iff.1 hg).1
theorem Filled.step {w : World} {g N k : Nat} {F : Nat → Nat} (h : Filled w g N k F) (hk : k < N) (z : Nat) (hz : F k = z) :
    Filled (w.setCell ⟨g, k, none⟩ (.int .u8 (z : Int))) g N (k + 1) F := by
  obtain ⟨cur, hg, hs, hc⟩ := h
  refine ⟨cur.setIfInBounds k (.int .u8 (z : Int)), heap_setCell_same w g k cur 5 _ hg, by simpa using hs, fun j hj => ?_⟩
  by_cases hjk : j = k
  · subst hjk
    rw [Array.getElem?_setIfInBounds_self_of_lt (by omega), hz]
  · rw [Array.getElem?_setIfInBounds_ne (by omega)]
    exact hc j (by omega)
theorem Filled.rf {w : World} {g N : Nat} {F : Nat → Nat} (h : Filled w g N N F) : Rf w (some ⟨g, 0, none⟩) N (fun j => .int .u8 (F j : Int)) := by
  obtain ⟨cur, hg, hs, hc⟩ := h
  refine ⟨fun hn => ⟨g, 0, rfl, fun j hj => ?_⟩⟩
  rw [Nat.zero_add, cell_of_row w g j cur 5 (0, 0) hg]
  exact hc j hj

def join (n : Nat) (Za Zc : Nat → Nat) (j : Nat) : Nat := if j < n then Za j else Zc (j - n)
theorem join_left {n j : Nat} (Za Zc : Nat → Nat) (h : j < n) : join n Za Zc j = Za j := if_pos h
theorem join_right {n j : Nat} (Za Zc : Nat → Nat) : join n Za Zc (n + j) = Zc j := by
  unfold join
  rw [if_neg (by omega), Nat.add_sub_cancel_left]

set_option maxRecDepth 100000 in
set_option maxHeartbeats 4000000 in
theorem rj_main (a b : Option Addr) (c c' n n' ra rc rj : Nat) (C : Array Value) (S : Nat → Bool) (Za Zc : Nat → Nat) (w : World)
    (h : Rf w a n (fun j => .int .u8 (Za j : Int))) (h' : Rf w b n' (fun j => .int .u8 (Zc j : Int))) (hZa : ∀ j, Za j < 256) (hZc : ∀ j, Zc j < 256) (hC : C.size = 256) (hCS : ∀ i, i < 256 → C[i]? = some (.bool (S i)))
    (hn : n ≤ 524288) (hn' : n' ≤ 524288) (hRa : Run S Za n ra) (hRc : Run S Zc n' rc) (hRj : Run S (join n Za Zc) (n + n') rj) (hfin : (((rc : Int) == 0) = true ∧ rj = ra) ∨ (((rc : Int) == 0) = false ∧ rj = n + rc)) :
    Calls Try.prog 3 #[.slice a n c, .slice b n' c', .agg C] w fun e w' => e = .returned (.bool true) ∧ Below w.heap.size w w' := by
  obtain ⟨i5, hi5, hz5, hs5, hb5⟩ := info_parts info5
  have HC : Hid (C.size = 256) := hC
  have HCS : Hid (∀ i, i < 256 → C[i]? = some (.bool (S i))) := hCS
  have HZa : Hid (∀ j, Za j < 256) := hZa
  have HZc : Hid (∀ j, Zc j < 256) := hZc
  have HRa : Hid (Run S Za n ra) := hRa
  have HRc : Hid (Run S Zc n' rc) := hRc
  have HRj : Hid (Run S (join n Za Zc) (n + n') rj) := hRj
  have HFIN : Hid ((((rc : Int) == 0) = true ∧ rj = ra) ∨ (((rc : Int) == 0) = false ∧ rj = n + rc)) := hfin
  have HA : Hid (Rf w a n (fun j => .int .u8 (Za j : Int))) := h
  have HD : Hid (Rf w b n' (fun j => .int .u8 (Zc j : Int))) := h'
  have g1 : ¬ (524288 : Int) < (n : Int) := by omega
  have g2 : ¬ (524288 : Int) < (n' : Int) := by omega
  clear hC hCS hZa hZc hRa hRc hRj hfin h h'
  go_enter Try.func3, Try.ntmps3
  go_wp2_with (refine wpList_load_row rfl 23 (.tmp 5) rfl w.heap.size rfl 23 C (0, 0) _ (heap_alloc_new w _) Try.underlying23 rfl (by rw [size23, HC.out]) ?_)
  refine (bytes4_any _ _ _ _ _ _ C _ (by omega) (by omega)).mono ?_
  rintro e w1 ⟨⟨rb, rfl⟩, hb1⟩
  have HB0 : Hid (Below w.heap.size w w1) := ((Below.refl _ _).alloc (Nat.le_refl _) _).trans (hb1.mono (by simp))
  have HS1 : Hid (SetAt w1 w.heap.size S) := by
    refine SetAt.later (w := w.alloc (.cells C 23)) ⟨fun i hi => ?_⟩ hb1
    rw [cell_of_row _ w.heap.size i C 23 (0, 0) (heap_alloc_new w _)]
    exact HCS.out i hi
  clear hb1 HC HCS
  cases rb
  · go_wp2
    go_ret
    exact ⟨rfl, HB0.out⟩
  have HA0 : Hid (Rf w1 a n (fun j => .int .u8 (Za j : Int))) := HA.out.later HB0.out
  have HD0 : Hid (Rf w1 b n' (fun j => .int .u8 (Zc j : Int))) := HD.out.later HB0.out
  have hsz0 : w.heap.size ≤ w1.heap.size := HB0.out.size
  clear HA HD
  go_upto_if 28 with fail
  go_cut [0] (fun s0 wc => ∃ a1 c1, s0 = .slice a1 n c1 ∧ Rf wc a1 n (fun j => .int .u8 (Za j : Int)) ∧ Below w1.heap.size w1 wc)
  case first =>
    cases a with
    | none =>
      go_wp2_with fail
      go_meet
      exact ⟨none, c, rfl, HA0.out, Below.refl _ _⟩
    | some ad => as_aux_lemma =>
      obtain ⟨X, hX⟩ : ∃ X, X = (List.range n).map (fun j => Value.int .u8 (Za j : Int)) := ⟨_, rfl⟩
      have HX : Hid (X = (List.range n).map (fun j => Value.int .u8 (Za j : Int))) := hX
      have HX1 : Hid (∀ v ∈ X, v.oneCell' = true) := by
        rw [hX]; intro v hv
        obtain ⟨_, _, rfl⟩ := List.mem_map.1 hv
        rfl
      have HC : Hid (∀ j v, X[j]? = some v → w1.cell? (ad.add j) = some v) := by rw [hX]; exact cells_of_rf HA0.out
      have HXl : Hid (X.length = n) := by show _ = _; rw [hX]; simp
      clear hX
      go_wp2_with (at_make; go_must (refine wpList_make_full _ rfl _ _ 22 rfl w1.heap.size 5 i5 (Value.int .u8 0) 1 Try.underlying22 hi5 hz5 hs5 .i64 .i64 _ _ n rfl rfl rfl rfl (by rw [hb5]; omega) (by unfold maxLen; omega) (Nat.le_refl _) ?_))
      intro wx hown hgrow
      obtain ⟨Z, hZ⟩ : ∃ Z, Z = (madeCells #[Value.int .u8 0] n).toList := ⟨_, rfl⟩
      have hown2 : wx.ownsRow w1.heap.size 5 1 (.slice (some ⟨w1.heap.size, 0, none⟩) n n) n Z := by rw [hZ]; simpa using hown
      have HB : Hid (wx.heap[w1.heap.size]? = some (.cells Z.toArray 5 (0, 0))) := own_block hown2
      have HZl : Hid (Z.length = n) := by have := hown2.1; show _ = _; omega
      have HW : Hid (Below w1.heap.size w1 wx) := below_of_grown hgrow (Nat.le_refl _) (fun k hk => by cases hk)
      have HC1 : Hid (∀ j v, X[j]? = some v → wx.cell? (ad.add j) = some v) := fun j v hv => by
        have h1 := HC.out j v hv
        rw [HW.out.cell (World.block_lt_of_cell? w1 _ h1)]
        exact h1
      clear hown hown2 hgrow hZ
      go_wp2_with (refine wpList_copy_splice rfl (.tmp 32) (.tmp 33) 22 22 rfl 5 Try.underlying22 (by rw [hi5]; simp [hs5]) _ _ _ _ _ _ rfl rfl w1.heap.size 0 Z 5 HB.out X (by rw [HXl.out]; exact (Nat.min_self n).symm) (fun h0 => ⟨rfl, _, rfl, HC1.out⟩) (by rw [HXl.out, HZl.out]; omega) HX1.out w1.heap.size w1 HW.out (Nat.le_refl _) ?_)
      intro w2 HG2 hB2
      have HO : Hid (Rf w2 (some ⟨w1.heap.size, 0, none⟩) n (fun j => Value.int .u8 (Za j : Int))) := by
        have h2 := HG2.out
        rw [splice_whole _ _ (by rw [HXl.out, HZl.out])] at h2
        have h3 := own_mk h2 (Nat.le_refl w1.heap.size) HXl.out (by unfold maxLen; omega)
        rw [HX.out] at h3
        exact Rf.of_own h3
      have HB2 : Hid (Below w1.heap.size w1 w2) := hB2
      clear HG2 hB2
      go_wp2_with fail
      go_meet
      exact ⟨_, _, rfl, HO.out, HB2.out⟩
  case rest =>
    obtain ⟨a1, c1, rfl, hA1, hB1⟩ := hcut
    have HA1 : Hid (Rf wc a1 n (fun j => .int .u8 (Za j : Int))) := hA1
    have HD1 : Hid (Rf wc b n' (fun j => .int .u8 (Zc j : Int))) := HD0.out.later hB1
    have HB1 : Hid (Below w.heap.size w wc) := HB0.out.trans (hB1.mono hsz0)
    have HS2 : Hid (SetAt wc w.heap.size S) := HS1.out.later hB1
    have hsz1 : w.heap.size ≤ wc.heap.size := HB1.out.size
    clear hA1 hB1 HA0 HD0 HB0 HS1
    obtain ⟨wa, hwa⟩ : ∃ wa, wa = wc := ⟨_, rfl⟩
    subst hwa
    go_upto_if 37 with fail
    go_cut [1] (fun s0 wc => ∃ b1 d1, s0 = .slice b1 n' d1 ∧ Rf wc b1 n' (fun j => .int .u8 (Zc j : Int)) ∧ Below wa.heap.size wa wc)
    case first =>
      cases b with
      | none =>
        go_wp2_with fail
        go_meet
        exact ⟨none, c', rfl, HD1.out, Below.refl _ _⟩
      | some ad => as_aux_lemma =>
        obtain ⟨X, hX⟩ : ∃ X, X = (List.range n').map (fun j => Value.int .u8 (Zc j : Int)) := ⟨_, rfl⟩
        have HX : Hid (X = (List.range n').map (fun j => Value.int .u8 (Zc j : Int))) := hX
        have HX1 : Hid (∀ v ∈ X, v.oneCell' = true) := by
          rw [hX]; intro v hv
          obtain ⟨_, _, rfl⟩ := List.mem_map.1 hv
          rfl
        have HC : Hid (∀ j v, X[j]? = some v → wa.cell? (ad.add j) = some v) := by rw [hX]; exact cells_of_rf HD1.out
        have HXl : Hid (X.length = n') := by show _ = _; rw [hX]; simp
        clear hX
        go_wp2_with (at_make; go_must (refine wpList_make_full _ rfl _ _ 22 rfl wa.heap.size 5 i5 (Value.int .u8 0) 1 Try.underlying22 hi5 hz5 hs5 .i64 .i64 _ _ n' rfl rfl rfl rfl (by rw [hb5]; omega) (by unfold maxLen; omega) (Nat.le_refl _) ?_))
        intro w1 hown hgrow
        obtain ⟨Z, hZ⟩ : ∃ Z, Z = (madeCells #[Value.int .u8 0] n').toList := ⟨_, rfl⟩
        have hown2 : w1.ownsRow wa.heap.size 5 1 (.slice (some ⟨wa.heap.size, 0, none⟩) n' n') n' Z := by rw [hZ]; simpa using hown
        have HB : Hid (w1.heap[wa.heap.size]? = some (.cells Z.toArray 5 (0, 0))) := own_block hown2
        have HZl : Hid (Z.length = n') := by have := hown2.1; show _ = _; omega
        have HW : Hid (Below wa.heap.size wa w1) := below_of_grown hgrow (Nat.le_refl _) (fun k hk => by cases hk)
        have HC1 : Hid (∀ j v, X[j]? = some v → w1.cell? (ad.add j) = some v) := fun j v hv => by
          have h1 := HC.out j v hv
          rw [HW.out.cell (World.block_lt_of_cell? wa _ h1)]
          exact h1
        clear hown hown2 hgrow hZ
        go_wp2_with (refine wpList_copy_splice rfl (.tmp 41) (.tmp 42) 22 22 rfl 5 Try.underlying22 (by rw [hi5]; simp [hs5]) _ _ _ _ _ _ rfl rfl wa.heap.size 0 Z 5 HB.out X (by rw [HXl.out]; exact (Nat.min_self n').symm) (fun h0 => ⟨rfl, _, rfl, HC1.out⟩) (by rw [HXl.out, HZl.out]; omega) HX1.out wa.heap.size wa HW.out (Nat.le_refl _) ?_)
        intro w2 HG2 hB2
        have HO : Hid (Rf w2 (some ⟨wa.heap.size, 0, none⟩) n' (fun j => Value.int .u8 (Zc j : Int))) := by
          have h2 := HG2.out
          rw [splice_whole _ _ (by rw [HXl.out, HZl.out])] at h2
          have h3 := own_mk h2 (Nat.le_refl wa.heap.size) HXl.out (by unfold maxLen; omega)
          rw [HX.out] at h3
          exact Rf.of_own h3
        have HB2 : Hid (Below wa.heap.size wa w2) := hB2
        clear HG2 hB2
        go_wp2_with fail
        go_meet
        exact ⟨_, _, rfl, HO.out, HB2.out⟩
    case rest =>
      obtain ⟨b1, d1, rfl, hD2, hB2⟩ := hcut
      have HA2 : Hid (Rf wc a1 n (fun j => .int .u8 (Za j : Int))) := HA1.out.later hB2
      have HD2 : Hid (Rf wc b1 n' (fun j => .int .u8 (Zc j : Int))) := hD2
      have HB2 : Hid (Below w.heap.size w wc) := HB1.out.trans (hB2.mono hsz1)
      have HS3 : Hid (SetAt wc w.heap.size S) := HS2.out.later hB2
      have hsz2 : w.heap.size ≤ wc.heap.size := HB2.out.size
      clear hD2 hB2 HA1 HD1 HB1 HS2 hsz1
      obtain ⟨wb, hwb⟩ : ∃ wb, wb = wc := ⟨_, rfl⟩
      subst hwb
      go_wp2_with (at_make; go_must (refine wpList_make_full _ rfl _ _ 22 rfl wb.heap.size 5 i5 (.int .u8 0) 1 Try.underlying22 hi5 hz5 hs5 .i64 .i64 _ _ (n + n') rfl rfl (by omega) (by omega) (by rw [hb5]; omega) (by unfold maxLen; omega) (Nat.le_refl _) ?_))
      intro w3 hown hgrow
      have HF : Hid (Filled w3 wb.heap.size (n + n') 0 (join n Za Zc)) := by
        have h2 := own_block hown
        have h3 := hown.1
        exact ⟨_, h2, by simpa using h3, fun j hj => absurd hj (by omega)⟩
      have HB3 : Hid (Below wb.heap.size wb w3) := below_of_grown hgrow (Nat.le_refl _) (fun k hk => by cases hk)
      clear hown hgrow
      go_wp2
      go_loopw [10] (fun i wr => ∃ k : Nat, k ≤ n ∧ i = .int .i64 k ∧ Below wb.heap.size wb wr ∧ Filled wr wb.heap.size (n + n') k (join n Za Zc)) (fun i _ => n - (intOf i).toNat)
      case atStart => exact ⟨0, Nat.zero_le _, rfl, HB3.out, HF.out⟩
      case round =>
        obtain ⟨k, hk, rfl, hbr, hfr⟩ := hrel
        have HBr : Hid (Below wb.heap.size wb wr) := hbr
        have HFr : Hid (Filled wr wb.heap.size (n + n') k (join n Za Zc)) := hfr
        have hgl : wb.heap.size < wr.heap.size := hfr.lt
        clear hbr hfr HB3 HF
        by_cases hlt : k < n
        · as_aux_lemma =>
          obtain ⟨u0, hu0⟩ := HFr.out.cell (j := k) (by omega)
          have f0 := HFr.out.free k
          obtain ⟨ba, oa, ha, hca⟩ := (HA2.out.later HBr.out).cel (by omega)
          have c0 := hca k hlt
          have HN : Hid (_) := HFr.out.step (by omega) (Za k) (join_left Za Zc hlt)
          subst ha
          have hki : (k : Int) < (n : Int) := by omega
          have hki2 : (k : Int) < (n : Int) + (n' : Int) := by omega
          clear hca HA2 HD2 HS3 HRa HRc HRj HFIN HZa HZc
          generalize Za k = z at *
          go_wp2
          go_roundw
          case rel => exact ⟨k + 1, by omega, by go_num, HBr.out.setCell (Nat.le_refl _) _, HN.out⟩
          case measure => simp [intOf]; omega
        have hge : ¬ (k : Int) < (n : Int) := by omega
        obtain rfl : k = n := by omega
        clear hk hlt
        go_wp2
        go_loopw [11] (fun i wr => ∃ j : Nat, j ≤ n' ∧ i = .int .i64 j ∧ Below wb.heap.size wb wr ∧ Filled wr wb.heap.size (k + n') (k + j) (join k Za Zc)) (fun i _ => n' - (intOf i).toNat)
        case atStart => exact ⟨0, Nat.zero_le _, rfl, HBr.out, HFr.out⟩
        case round =>
          obtain ⟨j, hj, rfl, hbr, hfr⟩ := hrel
          have HBs : Hid (Below wb.heap.size wb wr) := hbr
          have HFs : Hid (Filled wr wb.heap.size (k + n') (k + j) (join k Za Zc)) := hfr
          have hgs : wb.heap.size < wr.heap.size := hfr.lt
          clear hbr hfr HBr HFr hgl
          by_cases hlt : j < n'
          · as_aux_lemma =>
            obtain ⟨u0, hu0⟩ := HFs.out.cell (j := k + j) (by omega)
            have f0 := HFs.out.free (k + j)
            obtain ⟨ba, oa, ha, hca⟩ := (HD2.out.later HBs.out).cel (by omega)
            have c0 := hca j hlt
            have HN : Hid (_) := HFs.out.step (by omega) (Zc j) (join_right Za Zc)
            subst ha
            have hki : (j : Int) < (n' : Int) := by omega
            have hki2 : (k : Int) + (j : Int) < (k : Int) + (n' : Int) := by omega
            clear hca HA2 HD2 HS3 HRa HRc HRj HFIN HZa HZc
            generalize Zc j = z at *
            go_wp2
            go_roundw
            case rel => exact ⟨j + 1, by omega, by go_num, HBs.out.setCell (Nat.le_refl _) _, HN.out⟩
            case measure => simp [intOf]; omega
          have hge2 : ¬ (j : Int) < (n' : Int) := by omega
          obtain rfl : j = n' := by omega
          clear hj hlt
          have HA4 : Hid (Rf wr a1 k (fun j => .int .u8 (Za j : Int))) := HA2.out.later HBs.out
          have HD4 : Hid (Rf wr b1 j (fun j => .int .u8 (Zc j : Int))) := HD2.out.later HBs.out
          have HJ4 : Hid (Rf wr (some ⟨wb.heap.size, 0, none⟩) (k + j) (fun i => .int .u8 (join k Za Zc i : Int))) := HFs.out.rf
          have HS4 : Hid (SetAt wr w.heap.size S) := HS3.out.later HBs.out
          have HB4 : Hid (Below w.heap.size w wr) := HB2.out.trans (HBs.out.mono hsz2)
          have HZj : Hid (∀ i, join k Za Zc i < 256) := fun i => by
            unfold join
            split
            · exact HZa.out i
            · exact HZc.out _
          clear HA2 HD2 HS3 HBs HFs HB2 hgs hsz2
          go_wp2_with fail
          refine (zrun_any a1 k c1 w.heap.size ra S Za _ HA4.out HS4.out HZa.out (by omega) HRa.out).mono ?_
          rintro e v1 ⟨rfl, q1, rfl⟩
          have lt1 : ∀ q, Below wr.heap.size wr (wr.drewN q) := fun q => below_drewN (Below.refl _ _) q
          have HLT : Hid (∀ q, Below wr.heap.size wr (wr.drewN q)) := lt1
          clear lt1
          go_wp2_with fail
          refine (zrun_any b1 j d1 w.heap.size rc S Zc _ (HD4.out.later (HLT.out q1)) (HS4.out.later (HLT.out q1)) HZc.out (by omega) HRc.out).mono ?_
          rintro e v2 ⟨rfl, q2, rfl⟩
          rw [World.drewN_drewN]
          go_wp2_with fail
          refine (zrun_any (some ⟨wb.heap.size, 0, none⟩) (k + j) (k + j) w.heap.size rj S (join k Za Zc) _ (HJ4.out.later (HLT.out _)) (HS4.out.later (HLT.out _)) HZj.out (by omega) HRj.out).mono ?_
          rintro e v3 ⟨rfl, q3, rfl⟩
          rw [World.drewN_drewN]
          go_wp2_with fail
          refine (start_any b1 j d1 w.heap.size rc S Zc _ (HD4.out.later (HLT.out _)) (HS4.out.later (HLT.out _)) HZc.out (by omega) HRc.out).mono ?_
          rintro e v4 ⟨rfl, q4, rfl⟩
          rw [World.drewN_drewN]
          go_wp2_with fail
          refine (start_any a1 k c1 w.heap.size ra S Za _ (HA4.out.later (HLT.out _)) (HS4.out.later (HLT.out _)) HZa.out (by omega) HRa.out).mono ?_
          rintro e v5 ⟨rfl, q5, rfl⟩
          rw [World.drewN_drewN]
          have HBF : Hid (∀ q, Below w.heap.size w (wr.drewN q)) := fun q => below_drewN HB4.out q
          have hra : ra ≤ k := HRa.out.le
          have hrc : rc ≤ j := HRc.out.le
          rcases HFIN.out with ⟨h0, h1⟩ | ⟨h0, h1⟩
          · subst h1
            clear HA4 HD4 HJ4 HS4 HB4 HZa HZc HZj HRa HRc HRj HFIN HLT
            go_wp2
            go_ret
            exact ⟨rfl, HBF.out _⟩
          · subst h1
            clear HA4 HD4 HJ4 HS4 HB4 HZa HZc HZj HRa HRc HRj HFIN HLT
            go_wp2
            go_ret
            exact ⟨rfl, HBF.out _⟩

theorem run_ex (S : Nat → Bool) (Z : Nat → Nat) (n : Nat) : ∃ r, Run S Z n r := by
  induction n with
  | zero => exact ⟨0, by omega, fun j h1 h2 => absurd h2 (by omega), fun h => absurd h (by omega)⟩
  | succ n ih =>
    obtain ⟨r, hr⟩ := ih
    cases hS : S (Z n)
    · exact ⟨n + 1, by omega, fun j h1 h2 => absurd h2 (by omega), fun _ => hS⟩
    · refine ⟨r, by have := hr.le; omega, fun j h1 h2 => ?_, hr.out⟩
      by_cases hj : j = n
      · rw [hj]; exact hS
      · exact hr.ins j h1 (by omega)

theorem run_join {S : Nat → Bool} {Za Zc : Nat → Nat} {n n' ra rc : Nat} (ha : Run S Za n ra) (hc : Run S Zc n' rc) : Run S (join n Za Zc) (n + n') (if rc = 0 then ra else n + rc) := by
  have hal := ha.le
  have hcl := hc.le
  have hright : ∀ j, rc ≤ j - n → n ≤ j → j < n + n' → S (join n Za Zc j) = true := by
    intro j h1 h2 h3
    have := hc.ins (j - n) h1 (by omega)
    rw [show j = n + (j - n) by omega, join_right]
    exact this
  by_cases h0 : rc = 0
  · rw [if_pos h0]
    refine ⟨by omega, fun j h1 h2 => ?_, fun h => ?_⟩
    · by_cases hj : j < n
      · rw [join_left Za Zc hj]; exact ha.ins j h1 hj
      · exact hright j (by omega) (by omega) h2
    · rw [join_left Za Zc (by omega)]; exact ha.out h
  · rw [if_neg h0]
    refine ⟨by omega, fun j h1 h2 => hright j (by omega) (by omega) h2, fun _ => ?_⟩
    rw [show n + rc - 1 = n + (rc - 1) by omega, join_right]
    exact hc.out (by omega)

set_option maxRecDepth 100000 in
set_option maxHeartbeats 1000000 in
theorem rj_big (a b : Option Addr) (c c' n n' : Nat) (C : Array Value) (w : World) (hC : C.size = 256) (hm : n ≤ 9223372036854775807) (hm' : n' ≤ 9223372036854775807) (hn : 524288 < n ∨ (n ≤ 524288 ∧ 524288 < n')) :
    Calls Try.prog 3 #[.slice a n c, .slice b n' c', .agg C] w fun e w' => e = .returned (.bool true) ∧ Below w.heap.size w w' := by
  have HC : Hid (C.size = 256) := hC
  have hc : (524288 : Int) < (n : Int) ∨ (¬ (524288 : Int) < (n : Int) ∧ (524288 : Int) < (n' : Int)) := by omega
  clear hn hC
  rcases hc with g1 | ⟨g1, g2⟩
  all_goals
    go_enter Try.func3, Try.ntmps3
    go_wp2_with (refine wpList_load_row rfl 23 (.tmp 5) rfl w.heap.size rfl 23 C (0, 0) _ (heap_alloc_new w _) Try.underlying23 rfl (by rw [size23, HC.out]) ?_)
    refine (bytes4_any _ _ _ _ _ _ C _ (by omega) (by omega)).mono ?_
    rintro e w1 ⟨⟨rb, rfl⟩, hb1⟩
    have HB0 : Hid (Below w.heap.size w w1) := ((Below.refl _ _).alloc (Nat.le_refl _) _).trans (hb1.mono (by simp))
    clear hb1
    cases rb
    all_goals
      go_wp2
      go_ret
      exact ⟨rfl, HB0.out⟩

theorem rj_any (a b : Option Addr) (c c' n n' : Nat) (C : Array Value) (S : Nat → Bool) (Za Zc : Nat → Nat) (w : World)
    (h : Rf w a n (fun j => .int .u8 (Za j : Int))) (h' : Rf w b n' (fun j => .int .u8 (Zc j : Int))) (hZa : ∀ j, Za j < 256) (hZc : ∀ j, Zc j < 256) (hC : C.size = 256) (hCS : ∀ i, i < 256 → C[i]? = some (.bool (S i)))
    (hm : n ≤ 9223372036854775807) (hm' : n' ≤ 9223372036854775807) :
    Calls Try.prog 3 #[.slice a n c, .slice b n' c', .agg C] w fun e w' => e = .returned (.bool true) ∧ Below w.heap.size w w' := by
  by_cases g1 : 524288 < n
  · exact rj_big a b c c' n n' C w hC hm hm' (.inl g1)
  by_cases g2 : 524288 < n'
  · exact rj_big a b c c' n n' C w hC hm hm' (.inr ⟨by omega, g2⟩)
  obtain ⟨ra, hRa⟩ := run_ex S Za n
  obtain ⟨rc, hRc⟩ := run_ex S Zc n'
  have hRj := run_join hRa hRc
  by_cases h0 : rc = 0
  · rw [if_pos h0] at hRj
    exact rj_main a b c c' n n' ra rc ra C S Za Zc w h h' hZa hZc hC hCS (by omega) (by omega) hRa hRc hRj (.inl ⟨by simp [h0], rfl⟩)
  · rw [if_neg h0] at hRj
    exact rj_main a b c c' n n' ra rc (n + rc) C S Za Zc w h h' hZa hZc hC hCS (by omega) (by omega) hRa hRc hRj (.inr ⟨by simp [h0], rfl⟩)

end Go.Proofs.Qxb6623505a
