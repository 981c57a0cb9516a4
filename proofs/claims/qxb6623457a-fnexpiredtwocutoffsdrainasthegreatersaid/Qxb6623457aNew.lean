/-
  CONTRACT: ZZNewAges (6).
-/
import Derived.Test.Qxb6623457aAges2
namespace Go.Proofs.Qxb6623457a
open Go.RowKit
set_option linter.unusedSimpArgs false
set_option linter.unusedVariables false

/-- block g: n entries, the first k of them written -/
def Filled (w : World) (g n k : Nat) (I : Nat → ByteArray) (T : Nat → Int) : Prop :=
  ∃ cur, w.heap[g]? = some (.cells cur 28 (0, 0)) ∧ cur.size = n * 2 ∧ ∀ j, j < k → cur[2 * j]? = some (.string (I j)) ∧ cur[2 * j + 1]? = some (.int .i64 (T j))

theorem Filled.made {w : World} {B g n : Nat} {xs : List Value} (I : Nat → ByteArray) (T : Nat → Int) (h : w.ownsRow B 28 2 (.slice (some ⟨g, 0, none⟩) n n) n xs) : Filled w g n 0 I T := by
  rcases h.2 with ⟨h', _⟩ | ⟨g', cap', cur, h', _, hg, _, _, hcs, htake⟩
  · simp at h'
  · simp only [Value.slice.injEq, Option.some.injEq, Addr.mk.injEq, and_true, true_and] at h'
    obtain ⟨rfl, rfl⟩ := h'
    exact ⟨cur, hg, hcs, fun j hj => absurd hj (by omega)⟩

theorem Filled.cell {w : World} {g n k j : Nat} {I : Nat → ByteArray} {T : Nat → Int} (h : Filled w g n k I T) (hj : j < n * 2) : ∃ u, w.cell? ⟨g, j, none⟩ = some u := by
  obtain ⟨cur, hg, hs, hc⟩ := h
  exact ⟨cur[j], by rw [cell_of_row w g j cur 28 (0, 0) hg]; simp⟩
theorem Filled.free {w : World} {g n k : Nat} {I : Nat → ByteArray} {T : Nat → Int} (h : Filled w g n k I T) (j : Nat) : w.frozen? ⟨g, j, none⟩ = false := by
  obtain ⟨cur, hg, hs, hc⟩ := h
  exact frozen_of_row w g j cur 28 hg
theorem Filled.lt {w : World} {g n k : Nat} {I : Nat → ByteArray} {T : Nat → Int} (h : Filled w g n k I T) : g < w.heap.size := by
  obtain ⟨cur, hg, hs, hc⟩ := h
  exact (Array.getElem?_eq_some_iff.1 hg).1

theorem Filled.step {w : World} {g n k : Nat} {I : Nat → ByteArray} {T : Nat → Int} (h : Filled w g n k I T) (hk : k < n) :
    Filled ((w.setCell ⟨g, k * 2, none⟩ (.string (I k))).setCell ⟨g, k * 2 + 1, none⟩ (.int .i64 (T k))).drew g n (k + 1) I T := by
  obtain ⟨cur, hg, hs, hc⟩ := h
  have b1 := heap_setCell_same w g (k * 2) cur 28 (.string (I k)) hg
  have b2 := heap_setCell_same _ g (k * 2 + 1) _ 28 (.int .i64 (T k)) b1
  refine ⟨(cur.setIfInBounds (k * 2) (.string (I k))).setIfInBounds (k * 2 + 1) (.int .i64 (T k)), b2, by simpa using hs, fun j hj => ?_⟩
  by_cases hjk : j = k
  · subst hjk
    rw [Nat.mul_comm 2 j]
    constructor
    · rw [Array.getElem?_setIfInBounds_ne (by omega), Array.getElem?_setIfInBounds_self_of_lt (by omega)]
    · rw [Array.getElem?_setIfInBounds_self_of_lt (by rw [Array.size_setIfInBounds]; omega)]
  · have := hc j (by omega)
    rw [Array.getElem?_setIfInBounds_ne (by omega), Array.getElem?_setIfInBounds_ne (by omega), Array.getElem?_setIfInBounds_ne (by omega), Array.getElem?_setIfInBounds_ne (by omega)]
    exact this

theorem Filled.ages {w : World} {g n : Nat} {I : Nat → ByteArray} {T : Nat → Int} (h : Filled w g n n I T) (first : Int) :
    AgesAt (w.alloc (.cells #[.slice (some ⟨g, 0, none⟩) n n, .int .i64 first] 37)) w.heap.size g first 0 n 0 I T := by
  have hl := h.lt
  obtain ⟨cur, hg, hs, hc⟩ := h
  refine ⟨heap_alloc_new w _, ⟨cur, by rw [Below.heap_alloc _ _ _ hl]; exact hg, by omega, fun j hj => ?_⟩, by omega⟩
  rw [Nat.zero_add, Nat.zero_add]
  exact hc j hj

/-- a pointer to a new Ages was returned -/
def IsNew (e : Ending) (w w' : World) (first : Int) (n : Nat) (I : Nat → ByteArray) (T : Nat → Int) : Prop :=
  ∃ p g, e = .returned (.pointer (some ⟨p, 0, none⟩)) ∧ AgesAt w' p g first 0 n 0 I T ∧ Below w.heap.size w w' ∧ w.heap.size ≤ g ∧ w.heap.size ≤ p

set_option maxHeartbeats 400000 in
theorem new_any (a b : Option Addr) (n c c' : Nat) (first : Int) (I : Nat → ByteArray) (T : Nat → Int) (w : World) (h : Rf w a n (fun j => .string (I j))) (h' : Rf w b n (fun j => .int .i64 (T j))) (hn : n ≤ 1000000) :
    Calls Try.prog 6 #[.slice a n c, .slice b n c', .int .i64 first] w fun e w' => IsNew e w w' first n I T := by
  obtain ⟨i0, hi0, hz0, hz1, hz2⟩ := info_parts info28
  have HA : Hid (Rf w a n (fun j => .string (I j))) := h
  have HT : Hid (Rf w b n (fun j => .int .i64 (T j))) := h'
  clear h h'
  go_enter Try.func6, Try.ntmps6
  go_wp2_with (at_make; go_must (refine wpList_make_full _ rfl _ _ 34 rfl w.heap.size 28 i0 (.agg #[.string ByteArray.empty, .int .i64 0]) 2 Try.underlying34 hi0 hz0 hz1 .i64 .i64 _ _ n rfl rfl rfl rfl (by rw [hz2]; omega) (by unfold maxLen; omega) (Nat.le_refl _) ?_))
  intro w1 hown hgrow
  have HF : Hid (Filled w1 w.heap.size n 0 I T) := Filled.made I T hown
  have HB : Hid (Below w.heap.size w w1) := below_of_grown hgrow (Nat.le_refl _) (fun k hk => by cases hk)
  clear hown hgrow
  go_wp2
  go_loopw [8] (fun i wr => ∃ k : Nat, k ≤ n ∧ i = .int .i64 k ∧ Below w.heap.size w wr ∧ Filled wr w.heap.size n k I T) (fun i _ => n - (intOf i).toNat)
  case atStart => exact ⟨0, Nat.zero_le _, rfl, HB.out, HF.out⟩
  case round =>
    obtain ⟨k, hk, rfl, hb, hf⟩ := hrel
    have HBr : Hid (Below w.heap.size w wr) := hb
    have HFr : Hid (Filled wr w.heap.size n k I T) := hf
    clear hb hf HB HF
    by_cases hlt : k < n
    · have hgl := HFr.out.lt
      obtain ⟨u0, hu0⟩ := HFr.out.cell (j := k * 2) (by omega)
      obtain ⟨u1, hu1⟩ := HFr.out.cell (j := k * 2 + 1) (by omega)
      have f0 := HFr.out.free (k * 2)
      have f1 := HFr.out.free (k * 2 + 1)
      have HN : Hid (_) := HFr.out.step hlt
      obtain ⟨ba, oa, ha, hca⟩ := (HA.out.later HBr.out).cel (by omega)
      obtain ⟨bb, ob, hb, hcb⟩ := (HT.out.later HBr.out).cel (by omega)
      have g0 := hca k hlt
      have g1 := hcb k hlt
      subst ha
      subst hb
      clear hca hcb HA HT
      generalize I k = s at *
      generalize T k = t at *
      have hki : (k : Int) < (n : Int) := by omega
      go_wp2
      go_region
      go_wp2
      go_roundw
      case rel => exact ⟨k + 1, by omega, by go_num, ((HBr.out.setCell (Nat.le_refl _) _).setCell (Nat.le_refl _) _).drew, HN.out⟩
      case measure => simp [intOf]; omega
    · have hge : ¬ (k : Int) < (n : Int) := by omega
      obtain rfl : k = n := by omega
      have hgl := HFr.out.lt
      clear HA HT hk hlt
      go_wp2
      go_ret
      exact ⟨_, _, rfl, HFr.out.ages first, HBr.out.alloc (by omega) _, Nat.le_refl _, by omega⟩

end Go.Proofs.Qxb6623457a
