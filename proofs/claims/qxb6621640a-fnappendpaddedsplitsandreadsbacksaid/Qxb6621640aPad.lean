/-
  CONTRACTS: appendPadded (21), ZZAppendPadded (10). The plain side: 'pad v k': the k low decimal digits of v, the highest first.
-/
import Derived.Test.Qxb6621640aDigits
namespace Go.Proofs.Qxb6621640a
open Go.RowKit
set_option linter.unusedSimpArgs false
set_option linter.unusedVariables false

def dv (v : Int) (k : Nat) : Int := v / 10 ^ k
def pad (v : Int) : Nat → List Int
  | 0 => []
  | k + 1 => (48 + dv v k % 10) :: pad v k

theorem dv_zero (v : Int) : dv v 0 = v := by simp [dv]
theorem dv_succ (v : Int) (k : Nat) : dv v (k + 1) = dv v k / 10 := by
  unfold dv
  rw [Int.pow_succ, Int.ediv_ediv_of_nonneg (by exact Int.pow_nonneg (by omega))]
theorem dv_bd (v : Int) (k : Nat) (h0 : 0 ≤ v) (h : v ≤ 18446744073709551615) : 0 ≤ dv v k ∧ dv v k ≤ 18446744073709551615 := by
  induction k with
  | zero => rw [dv_zero]; omega
  | succ k ih => rw [dv_succ]; omega
theorem pad_length (v : Int) (k : Nat) : (pad v k).length = k := by
  induction k with
  | zero => rfl
  | succ k ih => simp [pad, ih]
theorem pad_dg (v : Int) (k : Nat) : (pad v k).all dg = true := by
  induction k with
  | zero => rfl
  | succ k ih => simp only [pad, List.all_cons, ih, Bool.and_true]; unfold dg; simp; omega

/-- the array of digits behind k rounds: block g, 20 cells, the last k of them the digits -/
def Dig (wr : World) (g : Nat) (v : Int) (k i : Nat) : Prop :=
  ∃ cur T, wr.heap[g]? = some (.cells cur T (0, 0)) ∧ cur.size = 20 ∧ cur.toList.drop i = (pad v k).map (Value.int .u8)

theorem Dig.step {wr : World} {g : Nat} {v : Int} {k i : Nat} (h : Dig wr g v k (i + 1)) (hi : i < 20) : Dig (wr.setCell ⟨g, i, none⟩ (.int .u8 (48 + dv v k % 10))) g v (k + 1) i := by
  obtain ⟨cur, T, hg, hs, hd⟩ := h
  refine ⟨cur.setIfInBounds i (.int .u8 (48 + dv v k % 10)), T, heap_setCell_same wr g i cur T _ hg, by simpa using hs, ?_⟩
  have hl : i < (cur.toList.set i (.int .u8 (48 + dv v k % 10))).length := by simp; omega
  rw [Array.toList_setIfInBounds, pad, List.map_cons, ← hd, List.drop_eq_getElem_cons hl, List.drop_set_of_lt (Nat.lt_succ_self i)]
  simp

theorem Dig.cell {wr : World} {g : Nat} {v : Int} {k i j : Nat} (h : Dig wr g v k i) (hj : j < 20) : ∃ u, wr.cell? ⟨g, j, none⟩ = some u := by
  obtain ⟨cur, T, hg, hs, hd⟩ := h
  exact ⟨cur[j], by rw [cell_of_row wr g j cur T (0, 0) hg]; simp⟩

theorem Dig.free {wr : World} {g : Nat} {v : Int} {k i j : Nat} (h : Dig wr g v k i) : wr.frozen? ⟨g, j, none⟩ = false := by
  obtain ⟨cur, T, hg, hs, hd⟩ := h
  exact frozen_of_row wr g j cur T hg

theorem Dig.cells {wr : World} {g : Nat} {v : Int} {k i : Nat} (h : Dig wr g v k i) : ∀ j u, ((pad v k).map (Value.int .u8))[j]? = some u → wr.cell? ⟨g, i + j, none⟩ = some u := by
  obtain ⟨cur, T, hg, hs, hd⟩ := h
  intro j u hu
  rw [← hd, List.getElem?_drop] at hu
  rw [cell_of_row wr g (i + j) cur T (0, 0) hg]
  simpa using hu

theorem elem44 : Try.prog.elem 44 = 5 := by kernel_rfl
theorem len44 : Try.prog.arrayLen 44 = 20 := by kernel_rfl
theorem slice44 (w : World) (g i : Nat) (hi : i < 20) : (Instr.sliceAt 44 (.pointer (some ⟨g, 0, none⟩)) (some (.int .i64 (i : Int))) none none).run Try.prog w = .ok (.slice (some ⟨g, i, none⟩) (20 - i) (20 - i)) w := by
  obtain ⟨i0, hi0, hz0, hz1, hz2⟩ := info_parts info5
  rw [run_sliceAt_array_l w 44 ⟨g, 0, none⟩ (by rw [elem44, len44]; exact Try.underlying44) .i64 (i : Int) (by omega) (by rw [len44]; omega)]
  rw [elem44, len44]
  simp [sizeOf, typeInfo, hi0, hz1, slicedAt, Addr.add_lit]
  intro h
  omega

set_option maxHeartbeats 400000 in
theorem pad_any (B : Nat) (a : Option Addr) (n c : Nat) (xs : List Int) (v wd : Int) (w : World) (hv0 : 0 ≤ v) (hv : v ≤ 18446744073709551615) (hown : w.ownsRow B 5 1 (.slice a n c) n (xs.map (Value.int .u8))) (hB : B ≤ w.heap.size) (hn : n ≤ 1000000000) (hwd : wd ≤ 20) :
    Calls Try.prog 21 #[.slice a n c, .int .u64 v, .int .i64 wd] w fun e w' => ∃ a' c', e = .returned (.slice a' (n + wd.toNat) c') ∧ w'.ownsRow B 5 1 (.slice a' (n + wd.toNat) c') (n + wd.toNat) ((xs ++ pad v wd.toNat).map (Value.int .u8)) ∧ w.grownBy w' (Value.slice a n c).ownBlock := by
  obtain ⟨i0, hi0, hz0, hz1, hz2⟩ := info_parts info5
  have HO : Hid (w.ownsRow B 5 1 (.slice a n c) n (xs.map (Value.int .u8))) := hown
  obtain ⟨X, hX⟩ : ∃ X, X = xs.map (Value.int .u8) := ⟨_, rfl⟩
  rw [← hX] at hown
  have HX : Hid (X = xs.map (Value.int .u8)) := hX
  clear hown hX
  go_enter Try.func21, Try.ntmps21
  go_wp2
  go_loopw [1, 8, 10] (fun vv ii kk wr => ∃ k i : Nat, i + k = 20 ∧ k ≤ wd.toNat ∧ vv = .int .u64 (dv v k) ∧ ii = .int .i64 i ∧ kk = .int .i64 k ∧ Below w.heap.size w wr ∧ wr.heap.size = w.heap.size + 1 ∧ Dig wr w.heap.size v k i)
    (fun _ _ kk _ => wd.toNat - (intOf kk).toNat)
  case atStart => exact ⟨0, 20, rfl, Nat.zero_le _, by rw [dv_zero], rfl, rfl, (Below.refl _ _).alloc (Nat.le_refl _) _, by simp, ⟨_, 44, heap_alloc_new w _, rfl, rfl⟩⟩
  case round =>
    obtain ⟨k, i, hik, hkw, rfl, rfl, rfl, hb, hsz, hD⟩ := hrel
    have HB : Hid (Below w.heap.size w wr) := hb
    have HSZ : Hid (wr.heap.size = w.heap.size + 1) := hsz
    have HD : Hid (Dig wr w.heap.size v k i) := hD
    have hle : w.heap.size < wr.heap.size := by omega
    have hd := dv_bd v k hv0 hv
    clear hb hsz hD
    by_cases hlt : (k : Int) < wd
    · obtain ⟨i', rfl⟩ : ∃ i', i = i' + 1 := ⟨i - 1, by omega⟩
      obtain ⟨u, hu⟩ := HD.out.cell (j := i') (by omega)
      have hf := HD.out.free (j := i')
      have HN := HD.out.step (by omega)
      have HV : Hid (dv v (k + 1) = dv v k / 10) := dv_succ v k
      obtain ⟨d, hdd⟩ : ∃ d, d = dv v k := ⟨_, rfl⟩
      rw [← hdd] at hd HN HV
      rw [← hdd]
      have HN' : Hid (Dig (wr.setCell { block := w.heap.size, off := i' } (Value.int IntKind.u8 (48 + d % 10))) w.heap.size v (k + 1) i') := HN
      clear hdd HN
      go_wp2
      go_roundw
      case rel => exact ⟨k + 1, i', by omega, by omega, by rw [HV.out], rfl, by go_num, HB.out.setCell (Nat.le_refl _) _, by rw [← HSZ.out]; simp, HN'.out⟩
      case measure => simp [intOf]; omega
    · have hk : k = wd.toNat := by omega
      have HW : Hid (wr.ownsRow B 5 1 (.slice a n c) n X) := by
        have := HO.out.kept (grown_of_below HB.out none) (by cases (Value.slice a n c).ownBlock <;> simp)
        show wr.ownsRow B 5 1 (.slice a n c) n X
        rw [HX.out]; exact this
      have HG : Hid (w.grownBy wr (Value.slice a n c).ownBlock) := grown_of_below HB.out _
      have hBr : B ≤ wr.heap.size := by omega
      by_cases h20 : i = 20
      · obtain rfl : k = 0 := by omega
        subst h20
        have HWD : Hid (wd.toNat = 0) := hk.symm
        clear hk hik hkw
        go_wp2_with (at_builtin; go_must (refine wpList_append_own _ rfl (.tmp 23) (.tmp 25) 22 rfl B 5 i0 (.int .u8 0) 1 1 Try.underlying22 hi0 hz0 hz1 hz2 rfl (by decide) _ n X rfl HW.out ⟨w.heap.size, 0, none⟩ 0 0 [] rfl rfl (by simp) (by simp) (by unfold maxLen; omega) (by omega) hBr ?_))
        intro v' w2 hown2 hgrow2 _
        obtain ⟨a2, c2, hv2⟩ := own_shape hown2
        rw [hv2]
        rw [hv2] at hown2
        have HF : Hid (w2.ownsRow B 5 1 (.slice a2 (n + wd.toNat) c2) (n + wd.toNat) ((xs ++ pad v wd.toNat).map (Value.int .u8))) := by
          show w2.ownsRow _ _ _ _ _ _
          rw [HWD.out]
          simpa [pad, HX.out] using hown2
        have HFG : Hid (w.grownBy w2 (Value.slice a n c).ownBlock) := grown_trans HG.out hgrow2
        clear hown2 hgrow2 hv2
        go_wp2
        go_ret
        exact ⟨a2, c2, by rw [HWD.out]; rfl, HF.out, HFG.out⟩
      · have HWD : Hid (k = wd.toNat) := hk
        have HI : Hid (20 - i = k) := by show _ = _; omega
        have hi20 : i < 20 := by omega
        obtain ⟨P, hP⟩ : ∃ P, P = (pad v k).map (Value.int .u8) := ⟨_, rfl⟩
        have HP : Hid (P = (pad v k).map (Value.int .u8)) := hP
        have HPl : Hid (P.length = (20 - i) * 1) := by show _ = _; rw [hP, List.length_map, pad_length]; omega
        have HC : Hid (∀ j u, P[j]? = some u → wr.cell? (Addr.add ⟨w.heap.size, i, none⟩ j) = some u) := by
          intro j u hu
          rw [Addr.add_lit]
          exact HD.out.cells j u (by rw [← hP]; exact hu)
        have hsl := fun w' => slice44 w' w.heap.size i hi20
        clear hk hP hik hkw
        go_wp2_with (at_builtin; go_must (refine wpList_append_own _ rfl (.tmp 23) (.tmp 25) 22 rfl B 5 i0 (.int .u8 0) 1 1 Try.underlying22 hi0 hz0 hz1 hz2 rfl (by decide) _ n X rfl HW.out ⟨w.heap.size, i, none⟩ (20 - i) (20 - i) P rfl HPl.out HC.out (by rw [HP.out]; exact ints_oneCell _ _) (by unfold maxLen; omega) (by omega) hBr ?_))
        intro v' w2 hown2 hgrow2 _
        obtain ⟨a2, c2, hv2⟩ := own_shape hown2
        rw [hv2]
        rw [hv2] at hown2
        have HE : Hid (20 - i = wd.toNat) := HI.out.trans HWD.out
        have HF : Hid (w2.ownsRow B 5 1 (.slice a2 (n + wd.toNat) c2) (n + wd.toNat) ((xs ++ pad v wd.toNat).map (Value.int .u8))) := by
          show w2.ownsRow _ _ _ _ _ _
          rw [← HE.out, List.map_append, ← HX.out, HE.out, ← HWD.out, ← HP.out, HWD.out, ← HE.out]
          exact hown2
        have HFG : Hid (w.grownBy w2 (Value.slice a n c).ownBlock) := grown_trans HG.out hgrow2
        clear hown2 hgrow2 hv2
        go_wp2
        go_ret
        exact ⟨a2, c2, by rw [← HE.out]; rfl, HF.out, HFG.out⟩

set_option maxHeartbeats 400000 in
theorem zpad_any (B : Nat) (a : Option Addr) (n c : Nat) (xs : List Int) (v wd : Int) (w : World) (hv0 : 0 ≤ v) (hv : v ≤ 18446744073709551615) (hown : w.ownsRow B 5 1 (.slice a n c) n (xs.map (Value.int .u8))) (hB : B ≤ w.heap.size) (hn : n ≤ 1000000000) (hwd : wd ≤ 20) :
    Calls Try.prog 10 #[.slice a n c, .int .u64 v, .int .i64 wd] w fun e w' => ∃ a' c', e = .returned (.slice a' (n + wd.toNat) c') ∧ w'.ownsRow B 5 1 (.slice a' (n + wd.toNat) c') (n + wd.toNat) ((xs ++ pad v wd.toNat).map (Value.int .u8)) ∧ w.grownBy w' (Value.slice a n c).ownBlock := by
  go_enter Try.func10, Try.ntmps10
  go_wp2_with fail
  refine (pad_any B a n c xs v wd _ hv0 hv hown hB hn hwd).mono ?_
  rintro e w1 ⟨a', c', rfl, h1, h2⟩
  have H1 : Hid (w1.ownsRow B 5 1 (.slice a' (n + wd.toNat) c') (n + wd.toNat) ((xs ++ pad v wd.toNat).map (Value.int .u8))) := h1
  have H2 : Hid (w.grownBy w1 (Value.slice a n c).ownBlock) := h2
  clear h1 h2
  go_wp2
  go_ret
  exact ⟨a', c', rfl, H1.out, H2.out⟩

theorem Rd.drop {w : World} {a : Option Addr} {n i c : Nat} {xs : List Int} (h : Rd w a n xs) (hc : n ≤ c) (hi : i ≤ n) :
    Rd w (if c = i then a else Option.map (fun x => x.add i) a) (n - i) (xs.drop i) := by
  have hl := h.len
  refine ⟨by rw [List.length_drop]; omega, fun h0 => ?_⟩
  obtain ⟨b, off, hb, hcl⟩ := h.cel (by omega)
  refine ⟨b, off + i, by rw [if_neg (by omega), hb]; simp [Addr.add_lit], fun j hj => ?_⟩
  rw [Nat.add_assoc, hcl (i + j) (by omega)]
  simp [List.getD]

end Go.Proofs.Qxb6621640a
