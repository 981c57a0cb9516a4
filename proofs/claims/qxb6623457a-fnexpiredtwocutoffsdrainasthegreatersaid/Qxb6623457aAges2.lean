/-
  CONTRACTS: Ages.Expired (7), ZZAgesLen (8), ZZAgesAt (9), ZZAgesFirst (10), in the words of AgesAt.
-/
import Derived.Test.Qxb6623457aAges
namespace Go.Proofs.Qxb6623457a
open Go.RowKit
set_option linter.unusedSimpArgs false
set_option linter.unusedVariables false

section
variable {w : World} {p g off m k : Nat} {first : Int} {I : Nat → ByteArray} {T : Nat → Int}
theorem AgesAt.p0 (h : AgesAt w p g first off m k I T) : w.cell? ⟨p, 0, none⟩ = some (.slice (some ⟨g, off, none⟩) m m) := by
  rw [cell_of_row w p 0 _ 37 (0, 0) h.box]; rfl
theorem AgesAt.p1 (h : AgesAt w p g first off m k I T) : w.cell? ⟨p, 1, none⟩ = some (.int .i64 first) := by
  rw [cell_of_row w p 1 _ 37 (0, 0) h.box]; rfl
theorem AgesAt.fp (h : AgesAt w p g first off m k I T) (j : Nat) : w.frozen? ⟨p, j, none⟩ = false := frozen_of_row w p j _ 37 h.box
theorem AgesAt.fg (h : AgesAt w p g first off m k I T) (j : Nat) : w.frozen? ⟨g, j, none⟩ = false := by
  obtain ⟨cur, hg, hs, hc⟩ := h.row
  exact frozen_of_row w g j _ 28 hg
theorem AgesAt.pl (h : AgesAt w p g first off m k I T) : p < w.heap.size := (Array.getElem?_eq_some_iff.1 h.box).1
theorem AgesAt.gl (h : AgesAt w p g first off m k I T) : g < w.heap.size := by
  obtain ⟨cur, hg, hs, hc⟩ := h.row
  exact (Array.getElem?_eq_some_iff.1 hg).1
theorem AgesAt.gi (h : AgesAt w p g first off m k I T) (j : Nat) (hj : j < m) : w.cell? ⟨g, off + 2 * j, none⟩ = some (.string (I (k + j))) ∧ w.cell? ⟨g, off + 2 * j + 1, none⟩ = some (.int .i64 (T (k + j))) := by
  obtain ⟨cur, hg, hs, hc⟩ := h.row
  rw [cell_of_row w g _ _ 28 (0, 0) hg, cell_of_row w g _ _ 28 (0, 0) hg]
  exact hc j hj
end

theorem exp_yes (p g off m k : Nat) (first cut : Int) (I : Nat → ByteArray) (T : Nat → Int) (w : World) (h : AgesAt w p g first off (m + 1) k I T) (hm : m ≤ 1000000000) (hf : 0 ≤ first) (hf' : first ≤ 1000000000000) (hc : T k ≤ cut) :
    Calls Try.prog 7 #[.pointer (some ⟨p, 0, none⟩), .int .i64 cut] w fun e w' => e = .returned (.tuple #[.agg #[.string (I k), .int .i64 (T k)], .bool true]) ∧ ∃ off', AgesAt w' p g (first + 1) off' m (k + 1) I T ∧ Kept2 w w' p g := by
  have hg0 := (h.gi 0 (by omega)).1
  have hg1 := (h.gi 0 (by omega)).2
  rw [Nat.mul_zero, Nat.add_zero, Nat.add_zero] at hg0 hg1
  refine (exp_yes_walk p g off m first (T k) cut (I k) w hm h.p0 h.p1 (h.fp 0) (h.fp 1) hg0 hg1 (h.fg _) (h.fg _) h.pl h.gl h.ne hf hf' hc).mono ?_
  rintro e w' ⟨rfl, off', h1, h2, rfl⟩
  exact ⟨rfl, off', expW_ages h off' h1 h2 (T k) (I k), expW_kept w p g off off' m first (T k) (I k)⟩

set_option maxHeartbeats 400000 in
theorem exp_none_walk (p g off : Nat) (first cut : Int) (w : World) (hp0 : w.cell? ⟨p, 0, none⟩ = some (.slice (some ⟨g, off, none⟩) 0 0)) (hp : p < w.heap.size) :
    Calls Try.prog 7 #[.pointer (some ⟨p, 0, none⟩), .int .i64 cut] w fun e w' => e = .returned (.tuple #[.agg #[.string ⟨#[]⟩, .int .i64 0], .bool false]) ∧ Below w.heap.size w w' := by
  go_enter Try.func7, Try.ntmps7
  go_wp2
  exact bodyPost_ret (v := .tuple #[.agg #[.string ⟨#[]⟩, .int .i64 0], .bool false]) (by simp [results, Try.results7, go_sem]) rfl ⟨rfl, (Below.refl _ _).alloc (Nat.le_refl _) _⟩

set_option maxHeartbeats 400000 in
theorem exp_late_walk (p g off m : Nat) (cut at' : Int) (w : World) (hp0 : w.cell? ⟨p, 0, none⟩ = some (.slice (some ⟨g, off, none⟩) (m + 1) (m + 1))) (hg1 : w.cell? ⟨g, off + 1, none⟩ = some (.int .i64 at')) (hp : p < w.heap.size) (hg : g < w.heap.size) (hm : m ≤ 1000000000) (hc : cut < at') :
    Calls Try.prog 7 #[.pointer (some ⟨p, 0, none⟩), .int .i64 cut] w fun e w' => e = .returned (.tuple #[.agg #[.string ⟨#[]⟩, .int .i64 0], .bool false]) ∧ Below w.heap.size w w' := by
  have hne : ((m : Int) + 1 == 0) = false := by simp; omega
  have hpos : (0 : Int) < (m : Int) + 1 := by omega
  go_enter Try.func7, Try.ntmps7
  go_wp2
  exact bodyPost_ret (v := .tuple #[.agg #[.string ⟨#[]⟩, .int .i64 0], .bool false]) (by simp [results, Try.results7, go_sem]) rfl ⟨rfl, (Below.refl _ _).alloc (Nat.le_refl _) _⟩

theorem exp_no (p g off m k : Nat) (first cut : Int) (I : Nat → ByteArray) (T : Nat → Int) (w : World) (h : AgesAt w p g first off m k I T) (hm : m ≤ 1000000000) (hc : 0 < m → cut < T k) :
    Calls Try.prog 7 #[.pointer (some ⟨p, 0, none⟩), .int .i64 cut] w fun e w' => e = .returned (.tuple #[.agg #[.string ⟨#[]⟩, .int .i64 0], .bool false]) ∧ Below w.heap.size w w' := by
  cases m with
  | zero => exact exp_none_walk p g off first cut w h.p0 h.pl
  | succ m =>
    have hg1 := (h.gi 0 (by omega)).2
    rw [Nat.mul_zero, Nat.add_zero, Nat.add_zero] at hg1
    exact exp_late_walk p g off m cut (T k) w h.p0 hg1 h.pl h.gl (by omega) (hc (by omega))

theorem len_any (p g off m k : Nat) (first : Int) (I : Nat → ByteArray) (T : Nat → Int) (w : World) (h : AgesAt w p g first off m k I T) :
    Calls Try.prog 8 #[.pointer (some ⟨p, 0, none⟩)] w fun e w' => e = .returned (.int .i64 (m : Int)) ∧ w' = w := by
  have h0 := h.p0
  clear h
  go_enter Try.func8, Try.ntmps8
  go_wp2
  go_ret
  exact ⟨rfl, rfl⟩

theorem first_any (p g off m k : Nat) (first : Int) (I : Nat → ByteArray) (T : Nat → Int) (w : World) (h : AgesAt w p g first off m k I T) :
    Calls Try.prog 10 #[.pointer (some ⟨p, 0, none⟩)] w fun e w' => e = .returned (.int .i64 first) ∧ w' = w := by
  have h0 := h.p1
  clear h
  go_enter Try.func10, Try.ntmps10
  go_wp2
  go_ret
  exact ⟨rfl, rfl⟩

theorem at_any (p g off m k j : Nat) (first : Int) (I : Nat → ByteArray) (T : Nat → Int) (w : World) (h : AgesAt w p g first off m k I T) (hj : j < m) (hm : m ≤ 1000000000) :
    Calls Try.prog 9 #[.pointer (some ⟨p, 0, none⟩), .int .i64 (j : Int)] w fun e w' => e = .returned (.agg #[.string (I (k + j)), .int .i64 (T (k + j))]) ∧ Below w.heap.size w w' := by
  have h0 := h.p0
  have h1 := h.pl
  have h2 := h.gl
  have h3 := h.gi j hj
  rw [Nat.mul_comm 2 j] at h3
  obtain ⟨h3, h4⟩ := h3
  have h5 : (j : Int) < (m : Int) := by omega
  generalize I (k + j) = s at *
  generalize T (k + j) = t at *
  clear h
  go_enter Try.func9, Try.ntmps9
  go_wp2
  exact bodyPost_ret (v := .agg #[.string s, .int .i64 t]) (by simp [results, Try.results9, go_sem]) rfl ⟨rfl, (Below.refl _ _).alloc (Nat.le_refl _) _⟩

end Go.Proofs.Qxb6623457a
