/-
  CONTRACTS: Ages.Expired (7), ZZAgesLen (8), ZZAgesAt (9), ZZAgesFirst (10), ZZNewAges (6).
-/
import Derived.Test.Qxb6623457aBase
namespace Go.Proofs.Qxb6623457a
open Go.RowKit
set_option linter.unusedSimpArgs false
set_option linter.unusedVariables false

/-- block p is an Ages whose entries, in block g from cell 'off' on, are (I k, T k), .., (I (k+m-1), T (k+m-1)) -/
structure AgesAt (w : World) (p g : Nat) (first : Int) (off m k : Nat) (I : Nat → ByteArray) (T : Nat → Int) : Prop where
  box : w.heap[p]? = some (.cells #[.slice (some ⟨g, off, none⟩) m m, .int .i64 first] 37 (0, 0))
  row : ∃ cur, w.heap[g]? = some (.cells cur 28 (0, 0)) ∧ off + 2 * m ≤ cur.size ∧ ∀ j, j < m → cur[off + 2 * j]? = some (.string (I (k + j))) ∧ cur[off + 2 * j + 1]? = some (.int .i64 (T (k + j)))
  ne : ¬ p = g

/-- only the blocks p and g, and new ones, may have turned -/
structure Kept2 (w w' : World) (p g : Nat) : Prop where
  os : w'.os = w.os
  tape : w'.tape = w.tape
  output : w'.output = w.output
  size : w.heap.size ≤ w'.heap.size
  block : ∀ k, k < w.heap.size → k ≠ p → k ≠ g → w'.heap[k]? = w.heap[k]?

theorem Kept2.refl (w : World) (p g : Nat) : Kept2 w w p g := ⟨rfl, rfl, rfl, Nat.le_refl _, fun _ _ _ _ => rfl⟩
theorem Kept2.trans {a b c : World} {p g : Nat} (h : Kept2 a b p g) (k : Kept2 b c p g) : Kept2 a c p g :=
  ⟨k.os.trans h.os, k.tape.trans h.tape, k.output.trans h.output, Nat.le_trans h.size k.size, fun i hi h1 h2 => (k.block i (Nat.lt_of_lt_of_le hi h.size) h1 h2).trans (h.block i hi h1 h2)⟩
theorem Kept2.of_below {w w' : World} {p g : Nat} (h : Below w.heap.size w w') : Kept2 w w' p g := ⟨h.os, h.tape, h.output, h.size, fun k hk _ _ => h.block k hk⟩
theorem Kept2.below {w w' : World} {p g B : Nat} (h : Kept2 w w' p g) (hB : B ≤ w.heap.size) (hp : B ≤ p) (hg : B ≤ g) : Below B w w' :=
  ⟨h.os, h.tape, h.output, h.size, fun k hk => h.block k (by omega) (by omega) (by omega)⟩

theorem AgesAt.later {w w' : World} {p g off m k : Nat} {first : Int} {I : Nat → ByteArray} {T : Nat → Int} (h : AgesAt w p g first off m k I T) (hb : Below w.heap.size w w') : AgesAt w' p g first off m k I T := by
  obtain ⟨cur, hg, hs, hc⟩ := h.row
  exact ⟨by rw [hb.block p (Array.getElem?_eq_some_iff.1 h.box).1]; exact h.box, ⟨cur, by rw [hb.block g (Array.getElem?_eq_some_iff.1 hg).1]; exact hg, hs, hc⟩, h.ne⟩

theorem AgesAt.kept {w w' : World} {p g p' g' off m k : Nat} {first : Int} {I : Nat → ByteArray} {T : Nat → Int} (h : AgesAt w p g first off m k I T) (hb : Kept2 w w' p' g') (h1 : p ≠ p') (h2 : p ≠ g') (h3 : g ≠ p') (h4 : g ≠ g') : AgesAt w' p g first off m k I T := by
  obtain ⟨cur, hg, hs, hc⟩ := h.row
  exact ⟨by rw [hb.block p (Array.getElem?_eq_some_iff.1 h.box).1 h1 h2]; exact h.box, ⟨cur, by rw [hb.block g (Array.getElem?_eq_some_iff.1 hg).1 h3 h4]; exact hg, hs, hc⟩, h.ne⟩

/-- the world behind Expired's yes -/
def expW (w : World) (p g off off' m : Nat) (first at' : Int) (id : ByteArray) : World :=
  ((((((w.setCell ⟨g, off, none⟩ (.string ⟨#[]⟩)).setCell ⟨g, off + 1, none⟩ (.int .i64 0)).setCell ⟨p, 0, none⟩ (.slice (some ⟨g, off', none⟩) m m)).setCell ⟨p, 1, none⟩ (.int .i64 (first + 1))).alloc (.cells #[.string id, .int .i64 at'] 28)).alloc (.cells #[.string id, .int .i64 at'] 28)).drew

theorem heap_drew' (X : World) : X.drew.heap = X.heap := rfl

theorem expW_size (w : World) (p g off off' m : Nat) (first at' : Int) (id : ByteArray) : (expW w p g off off' m first at' id).heap.size = w.heap.size + 2 := by
  unfold expW
  simp

theorem expW_heap (w : World) (p g off off' m : Nat) (first at' : Int) (id : ByteArray) (k : Nat) (hk : k < w.heap.size) : (expW w p g off off' m first at' id).heap[k]? = ((((w.setCell ⟨g, off, none⟩ (.string ⟨#[]⟩)).setCell ⟨g, off + 1, none⟩ (.int .i64 0)).setCell ⟨p, 0, none⟩ (.slice (some ⟨g, off', none⟩) m m)).setCell ⟨p, 1, none⟩ (.int .i64 (first + 1))).heap[k]? := by
  unfold expW
  rw [heap_drew', Below.heap_alloc _ _ _ (by simp; omega), Below.heap_alloc _ _ _ (by simp; omega)]

theorem expW_kept (w : World) (p g off off' m : Nat) (first at' : Int) (id : ByteArray) : Kept2 w (expW w p g off off' m first at' id) p g := by
  have hb : Below 0 w (expW w p g off off' m first at' id) := by
    unfold expW
    exact (((((((Below.refl 0 w).setCell (Nat.zero_le _) _).setCell (Nat.zero_le _) _).setCell (Nat.zero_le _) _).setCell (Nat.zero_le _) _).alloc (Nat.zero_le _) _).alloc (Nat.zero_le _) _).drew
  refine ⟨hb.os, hb.tape, hb.output, hb.size, fun k hk h1 h2 => ?_⟩
  rw [expW_heap _ _ _ _ _ _ _ _ _ _ hk, Below.heap_setCell _ _ _ _ h1, Below.heap_setCell _ _ _ _ h1, Below.heap_setCell _ _ _ _ h2, Below.heap_setCell _ _ _ _ h2]

theorem expW_ages {w : World} {p g off m k : Nat} {first : Int} {I : Nat → ByteArray} {T : Nat → Int} (h : AgesAt w p g first off (m + 1) k I T) (off' : Nat) (ho : 0 < m → off' = off + 2) (ho' : m = 0 → off' = off) (at' : Int) (id : ByteArray) :
    AgesAt (expW w p g off off' m first at' id) p g (first + 1) off' m (k + 1) I T := by
  obtain ⟨cur, hg, hs, hc⟩ := h.row
  have hne := h.ne
  have hpl := (Array.getElem?_eq_some_iff.1 h.box).1
  have hgl := (Array.getElem?_eq_some_iff.1 hg).1
  have b1 := heap_setCell_same w g off cur 28 (.string ⟨#[]⟩) hg
  have b2 := heap_setCell_same _ g (off + 1) _ 28 (.int .i64 0) b1
  have b3 : ((((w.setCell ⟨g, off, none⟩ (.string ⟨#[]⟩)).setCell ⟨g, off + 1, none⟩ (.int .i64 0)).setCell ⟨p, 0, none⟩ (.slice (some ⟨g, off', none⟩) m m)).setCell ⟨p, 1, none⟩ (.int .i64 (first + 1))).heap[g]? = some (.cells ((cur.setIfInBounds off (.string ⟨#[]⟩)).setIfInBounds (off + 1) (.int .i64 0)) 28 (0, 0)) := by
    rw [Below.heap_setCell _ _ _ _ (fun e => hne e.symm), Below.heap_setCell _ _ _ _ (fun e => hne e.symm)]
    exact b2
  have c0 : ((w.setCell ⟨g, off, none⟩ (.string ⟨#[]⟩)).setCell ⟨g, off + 1, none⟩ (.int .i64 0)).heap[p]? = some (.cells #[.slice (some ⟨g, off, none⟩) (m + 1) (m + 1), .int .i64 first] 37 (0, 0)) := by
    rw [Below.heap_setCell _ _ _ _ hne, Below.heap_setCell _ _ _ _ hne]
    exact h.box
  have c1 := heap_setCell_same _ p 0 _ 37 (.slice (some ⟨g, off', none⟩) m m) c0
  have c2 := heap_setCell_same _ p 1 _ 37 (.int .i64 (first + 1)) c1
  refine ⟨?_, ⟨(cur.setIfInBounds off (.string ⟨#[]⟩)).setIfInBounds (off + 1) (.int .i64 0), ?_, ?_, ?_⟩, hne⟩
  · rw [expW_heap _ _ _ _ _ _ _ _ _ _ hpl, c2]
    simp
  · rw [expW_heap _ _ _ _ _ _ _ _ _ _ hgl, b3]
  · simp only [Array.size_setIfInBounds]
    by_cases hm : m = 0
    · rw [ho' hm]; omega
    · rw [ho (by omega)]; omega
  · intro j hj
    rw [ho (by omega)]
    have h2 := hc (j + 1) (by omega)
    rw [show off + 2 + 2 * j = off + 2 * (j + 1) by omega, show k + 1 + j = k + (j + 1) by omega]
    rw [Array.getElem?_setIfInBounds_ne (by omega), Array.getElem?_setIfInBounds_ne (by omega), Array.getElem?_setIfInBounds_ne (by omega), Array.getElem?_setIfInBounds_ne (by omega)]
    exact h2

set_option maxHeartbeats 400000 in
theorem exp_yes_walk (p g off m : Nat) (first at' cut : Int) (id : ByteArray) (w : World) (hm' : m ≤ 1000000000)
    (hp0 : w.cell? ⟨p, 0, none⟩ = some (.slice (some ⟨g, off, none⟩) (m + 1) (m + 1))) (hp1 : w.cell? ⟨p, 1, none⟩ = some (.int .i64 first)) (fp0 : w.frozen? ⟨p, 0, none⟩ = false) (fp1 : w.frozen? ⟨p, 1, none⟩ = false)
    (hg0 : w.cell? ⟨g, off, none⟩ = some (.string id)) (hg1 : w.cell? ⟨g, off + 1, none⟩ = some (.int .i64 at')) (fg0 : w.frozen? ⟨g, off, none⟩ = false) (fg1 : w.frozen? ⟨g, off + 1, none⟩ = false)
    (hp : p < w.heap.size) (hg : g < w.heap.size) (hpg : ¬ p = g) (hf : 0 ≤ first) (hf' : first ≤ 1000000000000) (hc : at' ≤ cut) :
    Calls Try.prog 7 #[.pointer (some ⟨p, 0, none⟩), .int .i64 cut] w fun e w' => e = .returned (.tuple #[.agg #[.string id, .int .i64 at'], .bool true]) ∧ ∃ off', (0 < m → off' = off + 2) ∧ (m = 0 → off' = off) ∧ w' = expW w p g off off' m first at' id := by
  by_cases h1 : m = 0
  · subst h1
    go_enter Try.func7, Try.ntmps7
    go_wp2
    go_region
    go_wp2
    exact bodyPost_ret (v := .tuple #[.agg #[.string id, .int .i64 at'], .bool true]) (by simp [results, Try.results7, go_sem]) rfl ⟨rfl, off, by omega, fun _ => rfl, rfl⟩
  · have hne : ((m : Int) + 1 == 0) = false := by simp; omega
    have hpos : (0 : Int) < (m : Int) + 1 := by omega
    have hpos1 : (1 : Int) ≤ (m : Int) + 1 := by omega
    go_enter Try.func7, Try.ntmps7
    go_wp2
    go_region
    go_wp2
    exact bodyPost_ret (v := .tuple #[.agg #[.string id, .int .i64 at'], .bool true]) (by simp [results, Try.results7, go_sem]) rfl ⟨rfl, off + 2, fun _ => rfl, fun h => absurd h h1, rfl⟩

end Go.Proofs.Qxb6623457a
