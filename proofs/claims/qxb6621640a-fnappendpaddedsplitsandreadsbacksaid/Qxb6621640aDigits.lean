/-
  CONTRACTS: isDigits (23), ZZIsDigits (17), zzCloneBytes (9).
-/
import Derived.Test.Qxb6621640aBase
namespace Go.Proofs.Qxb6621640a
open Go.RowKit
set_option linter.unusedSimpArgs false
set_option linter.unusedVariables false

def dg (z : Int) : Bool := decide (48 ≤ z) && decide (z ≤ 57)
def digs (xs : List Int) : Bool := !xs.isEmpty && xs.all dg

theorem all_take_succ (xs : List Int) (k : Nat) (h : k < xs.length) : (xs.take (k + 1)).all dg = ((xs.take k).all dg && dg (xs.getD k 0)) := by
  rw [List.take_succ_eq_append_getElem h]
  rw [List.all_append]
  simp [List.getD, h]

theorem digs_no {xs : List Int} {k : Nat} (h : k < xs.length) (hz : dg (xs.getD k 0) = false) : digs xs = false := by
  unfold digs
  have : xs.all dg = false := by
    rw [List.all_eq_false]
    refine ⟨xs[k], List.getElem_mem h, ?_⟩
    simpa [List.getD, h] using hz
  simp [this]

theorem digs_yes {xs : List Int} (h0 : 0 < xs.length) (h : (xs.take xs.length).all dg = true) : digs xs = true := by
  unfold digs
  rw [List.take_length] at h
  cases xs with
  | nil => simp at h0
  | cons x r => simpa using h

set_option maxHeartbeats 400000 in
theorem isd_any (a : Option Addr) (n c : Nat) (xs : List Int) (w : World) (h : Rd w a n xs) (hn : n ≤ 1000000000) :
    Calls Try.prog 23 #[.slice a n c] w fun e w' => e = .returned (.bool (digs xs)) ∧ w' = w := by
  by_cases h0 : n = 0
  · subst h0
    have hx : xs = [] := List.eq_nil_of_length_eq_zero h.len
    subst hx
    go_enter Try.func23, Try.ntmps23
    go_wp2
    go_ret
    exact ⟨rfl, rfl⟩
  · obtain ⟨b, off, rfl, hc⟩ := h.cel (by omega)
    have hne : ((n : Int) == 0) = false := by simp; omega
    have HL : Hid (xs.length = n) := h.len
    clear h
    go_enter Try.func23, Try.ntmps23
    go_wp2
    go_loop [10] (fun i => ∃ k : Nat, k ≤ n ∧ i = .int .i64 k ∧ Hid ((xs.take k).all dg = true)) (fun i => n - (intOf i).toNat)
    case atStart => exact ⟨0, Nat.zero_le _, rfl, rfl⟩
    case round =>
      obtain ⟨k, hk, rfl, HK⟩ := hrel
      by_cases hlt : k < n
      · have hcell := hc k hlt
        obtain ⟨z, hz⟩ : ∃ z, z = xs.getD k 0 := ⟨_, rfl⟩
        rw [← hz] at hcell
        have HZ : Hid (z = xs.getD k 0) := hz
        clear hz hc
        by_cases h1 : z < 48
        · have HF : Hid (digs xs = false) := digs_no (k := k) (by rw [HL.out]; exact hlt) (by rw [← HZ.out]; simp [dg]; omega)
          go_wp2
          go_ret
          exact ⟨by rw [HF.out]; rfl, rfl⟩
        · by_cases h2 : 57 < z
          · have HF : Hid (digs xs = false) := digs_no (k := k) (by rw [HL.out]; exact hlt) (by rw [← HZ.out]; simp [dg]; omega)
            go_wp2
            go_ret
            exact ⟨by rw [HF.out]; rfl, rfl⟩
          · have HN : Hid ((xs.take (k + 1)).all dg = true) := by
              show _ = _
              rw [all_take_succ xs k (by rw [HL.out]; exact hlt), HK.out, ← HZ.out]
              simp [dg]; omega
            go_wp2
            go_round
            case rel => exact ⟨k + 1, by omega, by go_num, HN⟩
            case measure => simp [intOf]; omega
      · have hkn : k = n := by omega
        have HF : Hid (digs xs = true) := digs_yes (by rw [HL.out]; omega) (by rw [HL.out, ← hkn]; exact HK.out)
        clear hkn
        go_wp2
        go_ret
        exact ⟨by rw [HF.out]; rfl, rfl⟩

set_option maxHeartbeats 400000 in
theorem zisd_any (a : Option Addr) (n c : Nat) (xs : List Int) (w : World) (h : Rd w a n xs) (hn : n ≤ 1000000000) :
    Calls Try.prog 17 #[.slice a n c] w fun e w' => e = .returned (.bool (digs xs)) ∧ w' = w := by
  go_enter Try.func17, Try.ntmps17
  go_wp2_with fail
  refine (isd_any a n c xs _ h hn).mono ?_
  rintro e w' ⟨rfl, rfl⟩
  go_wp2
  go_ret
  exact ⟨rfl, rfl⟩

theorem cells_of_rd {w : World} {ad : Addr} {n : Nat} {xs : List Int} (h : Rd w (some ad) n xs) : 0 < (xs.map (Value.int .u8)).length → ∀ j v, (xs.map (Value.int .u8))[j]? = some v → w.cell? (ad.add j) = some v := by
  intro h0 j v hv
  have hl := h.len
  simp only [List.length_map] at h0
  obtain ⟨b, off, hb, hc⟩ := h.cel (by omega)
  obtain rfl := Option.some.inj hb
  have hj : j < xs.length := by
    have := (List.getElem?_eq_some_iff.1 hv).1
    simpa using this
  rw [Addr.add_lit, hc j (by omega)]
  simpa [List.getD, hj] using hv

set_option maxHeartbeats 400000 in
theorem clone_any (a : Option Addr) (n c : Nat) (xs : List Int) (w : World) (h : Rd w a n xs) (hnone : a = none → n = 0 ∧ c = 0) (hn : n ≤ 1000000000) :
    Calls Try.prog 9 #[.slice a n c] w fun e w' => ∃ a' c', e = .returned (.slice a' n c') ∧ w'.ownsRow w.heap.size 5 1 (.slice a' n c') n (xs.map (Value.int .u8)) ∧ Below w.heap.size w w' := by
  have q22 : ∀ (w : World) (a : Option Addr) (n c n' c' : Nat), (binOp .eql 22 (.slice a n c) (.slice none n' c')).run Try.prog w = .ok (.bool a.isNone) w := fun w a n c n' c' => Lib.run_eql_slice_nil w _ _ a n c n' c' Try.underlying22
  cases a with
  | none =>
    obtain ⟨rfl, rfl⟩ := hnone rfl
    have hx : xs = [] := List.eq_nil_of_length_eq_zero h.len
    subst hx
    clear h hnone
    go_enter Try.func9, Try.ntmps9
    go_wp2
    go_ret
    exact ⟨none, 0, rfl, World.ownsRow_nil _ _ _ _, Below.refl _ _⟩
  | some ad =>
    obtain ⟨i0, hi, hz0, hz1, hz2⟩ := info_parts info5
    obtain ⟨X, hX⟩ : ∃ X, X = xs.map (Value.int .u8) := ⟨_, rfl⟩
    have hXl : X.length = n := by rw [hX, List.length_map]; exact h.len
    have HX1 : Hid (∀ v ∈ X, v.oneCell' = true) := by rw [hX]; exact ints_oneCell _ _
    have HC : Hid (0 < X.length → ∀ j v, X[j]? = some v → w.cell? (ad.add j) = some v) := by rw [hX]; exact cells_of_rd h
    rw [← hX]
    have HXl : Hid (X.length = n) := hXl
    have HR : Hid (Rd w (some ad) n xs) := h
    clear h hnone hX hXl
    go_enter Try.func9, Try.ntmps9
    go_wp2_with (at_make; go_must (refine wpList_make_full _ rfl _ _ 22 rfl w.heap.size 5 i0 (.int .u8 0) 1 Try.underlying22 hi hz0 hz1 .i64 .i64 _ _ n rfl rfl rfl rfl (by rw [hz2]; omega) (by unfold maxLen; omega) (Nat.le_refl _) ?_))
    intro w1 hown hgrow
    obtain ⟨Z, hZ⟩ : ∃ Z, Z = (madeCells #[Value.int IntKind.u8 0] n).toList := ⟨_, rfl⟩
    rw [← hZ] at hown
    have HB : Hid (w1.heap[w.heap.size]? = some (.cells Z.toArray 5 (0, 0))) := own_block hown
    have HZl : Hid (Z.length = n) := by have := hown.1; show _ = _; omega
    have HW : Hid (Below w.heap.size w w1) := below_of_grown hgrow (Nat.le_refl _) (fun k hk => by cases hk)
    have HC1 : Hid (0 < X.length → ∀ j v, X[j]? = some v → w1.cell? (ad.add j) = some v) := fun h0 j v hv => by
      have h1 := HC.out h0 j v hv
      rw [HW.out.cell (World.block_lt_of_cell? w _ h1)]
      exact h1
    clear hown hgrow hZ
    go_wp2_with (refine wpList_copy_splice rfl (.tmp 9) (.tmp 10) 22 22 rfl 5 Try.underlying22 (by rw [hi]; simp [hz1]) _ _ _ _ _ _ rfl rfl w.heap.size 0 Z 5 HB.out X (by rw [HXl.out]; exact (Nat.min_self n).symm) (fun h0 => ⟨rfl, _, rfl, HC1.out h0⟩) (by rw [HXl.out, HZl.out]; omega) HX1.out w.heap.size w HW.out (Nat.le_refl _) ?_)
    intro w2 HG2 hB2
    have HO : Hid (w2.ownsRow w.heap.size 5 1 (.slice (some ⟨w.heap.size, 0, none⟩) n n) n X) := by
      have h2 := HG2.out
      rw [splice_whole _ _ (by rw [HXl.out, HZl.out])] at h2
      exact own_mk h2 (Nat.le_refl _) HXl.out (by unfold maxLen; omega)
    have HB2 : Hid (Below w.heap.size w w2) := hB2
    clear HG2 hB2
    go_wp2
    go_ret
    exact ⟨_, _, rfl, HO.out, HB2.out⟩

end Go.Proofs.Qxb6621640a
