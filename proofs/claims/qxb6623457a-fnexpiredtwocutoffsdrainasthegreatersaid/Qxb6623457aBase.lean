/-
  SHARED FACTS for the laws of seat b6623457a: what a slice of one-cell elements reads as; the contract of the bounds (5, 11).
-/
import Derived.Test.Qxb6623457aRows
import Derived.WalkKit
import Derived.WalkSpells
import Derived.WalkLawsBesides
import Derived.Laws.CopyOwn
import Derived.Laws.AppendOwnNone
import Derived.Deep.QuietTactic
import Derived.BigQuiet
import Derived.Deep.RegionWith
import Derived.Deep.DeepCutAuto
namespace Go.Proofs.Qxb6623457a
open Go.RowKit
set_option linter.unusedSimpArgs false
set_option linter.unusedVariables false

/-- the slice with address 'a' and length 'n' reads, in w, element by element, as f -/
structure Rf (w : World) (a : Option Addr) (n : Nat) (f : Nat → Value) : Prop where
  cel : 0 < n → ∃ b off, a = some ⟨b, off, none⟩ ∧ ∀ j, j < n → w.cell? ⟨b, off + j, none⟩ = some (f j)

theorem Rf.later {w w' : World} {a : Option Addr} {n : Nat} {f : Nat → Value} (h : Rf w a n f) (hb : Below w.heap.size w w') : Rf w' a n f := by
  refine ⟨fun hn => ?_⟩
  obtain ⟨b, off, rfl, hc⟩ := h.cel hn
  refine ⟨b, off, rfl, fun j hj => ?_⟩
  have hlt := World.block_lt_of_cell? w _ (hc j hj)
  rw [hb.cell (p := ⟨b, off + j, none⟩) hlt]
  exact hc j hj

theorem Rf.of_own {w : World} {B e n c : Nat} {a : Option Addr} {f : Nat → Value} (h : w.ownsRow B e 1 (.slice a n c) n ((List.range n).map f)) : Rf w a n f := by
  refine ⟨fun hn => ?_⟩
  rcases h.2 with ⟨_, h0⟩ | ⟨g, cap, cur, hv, _⟩
  · omega
  · simp only [Value.slice.injEq, true_and] at hv
    obtain ⟨rfl, rfl⟩ := hv
    refine ⟨g, 0, rfl, fun j hj => ?_⟩
    rw [Nat.zero_add, h.cellAt j (by omega)]
    simp [hj]

theorem own_block {w : World} {B e g n : Nat} {xs : List Value} (h : w.ownsRow B e 1 (.slice (some ⟨g, 0, none⟩) n n) n xs) : w.heap[g]? = some (.cells xs.toArray e (0, 0)) := by
  have hlen : xs.length = n := by simpa using h.1
  rcases h.2 with ⟨h', _⟩ | ⟨g', cap', cur, h', _, hg, _, _, hcs, htake⟩
  · simp at h'
  · simp only [Value.slice.injEq, Option.some.injEq, Addr.mk.injEq, and_true, true_and] at h'
    obtain ⟨rfl, rfl⟩ := h'
    rw [List.take_of_length_le (by rw [Array.length_toList]; omega)] at htake
    subst htake
    simpa using hg

theorem own_mk {w : World} {B e g n : Nat} {xs : List Value} (hg : w.heap[g]? = some (.cells xs.toArray e (0, 0))) (hB : B ≤ g) (hl : xs.length = n) (hm : n ≤ maxLen) : w.ownsRow B e 1 (.slice (some ⟨g, 0, none⟩) n n) n xs :=
  ⟨by omega, .inr ⟨g, n, xs.toArray, rfl, hB, hg, Nat.le_refl _, hm, by simp; omega, by rw [Nat.mul_one]; exact List.take_of_length_le (by simp; omega)⟩⟩

theorem splice_whole {α : Type} (L cs : List α) (h : cs.length = L.length) : splice L 0 cs = cs := by simp [splice, h]

theorem below_of_grown {w w' : World} {B : Nat} {row : Option Nat} (hg : w.grownBy w' row) (hB : B ≤ w.heap.size) (hr : ∀ k, row = some k → B ≤ k) : Below B w w' :=
  (Below.refl _ _).grown hg hB hr

theorem cells_of_rf {w : World} {ad : Addr} {n : Nat} {f : Nat → Value} (h : Rf w (some ad) n f) : ∀ j v, ((List.range n).map f)[j]? = some v → w.cell? (ad.add j) = some v := by
  intro j v hv
  have hj : j < n := by
    have := (List.getElem?_eq_some_iff.1 hv).1
    simpa using this
  obtain ⟨b, off, hb, hc⟩ := h.cel (by omega)
  obtain rfl := Option.some.inj hb
  rw [Addr.add_lit, hc j hj]
  simpa [hj] using hv

theorem info9 : (Try.prog.info? 9).map (fun i => (i.zero, i.size, i.bytes)) = some (some (.string ByteArray.empty), 1, 16) := by kernel_rfl
theorem info2 : (Try.prog.info? 2).map (fun i => (i.zero, i.size, i.bytes)) = some (some (.int .i64 0), 1, 8) := by kernel_rfl
theorem info28 : (Try.prog.info? 28).map (fun i => (i.zero, i.size, i.bytes)) = some (some (.agg #[.string ByteArray.empty, .int .i64 0]), 2, 24) := by kernel_rfl

/-- a bool was returned -/
def AnsB (e : Ending) : Prop := ∃ r : Bool, e = .returned (.bool r)

set_option maxHeartbeats 1000000 in
theorem bytes5_any (a b : Option Addr) (n c n' c' : Nat) (I : Nat → ByteArray) (x y : Int) (w : World) (h : Rf w a n (fun j => .string (I j))) (hn : n ≤ 9223372036854775807) :
    Calls Try.prog 5 #[.slice a n c, .slice b n' c', .int .i64 x, .int .i64 y] w fun e w' => AnsB e ∧ w' = w := by
  by_cases h0 : (1048576 : Int) < (n : Int)
  · go_enter Try.func5, Try.ntmps5
    go_wp2
    go_ret
    exact ⟨⟨_, rfl⟩, rfl⟩
  · by_cases hz : n = 0
    · subst hz
      clear h
      go_enter Try.func5, Try.ntmps5
      go_wp2
      refine wp_loop_rounds 1 ?_
      rw [rounds_succ]
      go_wp2
      all_goals
        go_ret
        exact ⟨⟨_, rfl⟩, rfl⟩
    · obtain ⟨b, off, rfl, hc⟩ := h.cel (by omega)
      clear h
      go_enter Try.func5, Try.ntmps5
      go_wp2
      go_loop [9, 10] (fun t i => ∃ k : Nat, k ≤ n ∧ i = .int .i64 k ∧ ∃ z : Int, t = .int .i64 z) (fun _ i => n - (intOf i).toNat)
      case atStart => exact ⟨0, Nat.zero_le _, rfl, _, rfl⟩
      case round =>
        obtain ⟨k, hk, rfl, z, rfl⟩ := hrel
        by_cases hlt : k < n
        · have hcell := hc k hlt
          generalize I k = s at *
          have hlti : (k : Int) < (n : Int) := by omega
          clear hc
          go_wp2
          · go_ret
            exact ⟨⟨_, rfl⟩, rfl⟩
          · go_ret
            exact ⟨⟨_, rfl⟩, rfl⟩
          · go_round
            case rel => exact ⟨k + 1, by omega, by go_num, _, rfl⟩
            case measure => simp [intOf]; omega
        · have hge : ¬ (k : Int) < (n : Int) := by omega
          clear hc
          go_wp2
          all_goals
            go_ret
            exact ⟨⟨_, rfl⟩, rfl⟩

set_option maxHeartbeats 1000000 in
theorem bytes11_any (a b : Option Addr) (n c n' c' : Nat) (I : Nat → ByteArray) (x y y' : Int) (w : World) (h : Rf w a n (fun j => .string (I j))) (hn : n ≤ 9223372036854775807) :
    Calls Try.prog 11 #[.slice a n c, .slice b n' c', .int .i64 x, .int .i64 y, .int .i64 y'] w fun e w' => AnsB e ∧ w' = w := by
  by_cases h0 : (1048576 : Int) < (n : Int)
  · go_enter Try.func11, Try.ntmps11
    go_wp2
    go_ret
    exact ⟨⟨_, rfl⟩, rfl⟩
  · by_cases hz : n = 0
    · subst hz
      clear h
      go_enter Try.func11, Try.ntmps11
      go_wp2
      refine wp_loop_rounds 1 ?_
      rw [rounds_succ]
      go_wp2
      all_goals
        go_ret
        exact ⟨⟨_, rfl⟩, rfl⟩
    · obtain ⟨b, off, rfl, hc⟩ := h.cel (by omega)
      clear h
      go_enter Try.func11, Try.ntmps11
      go_wp2
      go_loop [11, 12] (fun t i => ∃ k : Nat, k ≤ n ∧ i = .int .i64 k ∧ ∃ z : Int, t = .int .i64 z) (fun _ i => n - (intOf i).toNat)
      case atStart => exact ⟨0, Nat.zero_le _, rfl, _, rfl⟩
      case round =>
        obtain ⟨k, hk, rfl, z, rfl⟩ := hrel
        by_cases hlt : k < n
        · have hcell := hc k hlt
          generalize I k = s at *
          have hlti : (k : Int) < (n : Int) := by omega
          clear hc
          go_wp2
          · go_ret
            exact ⟨⟨_, rfl⟩, rfl⟩
          · go_ret
            exact ⟨⟨_, rfl⟩, rfl⟩
          · go_round
            case rel => exact ⟨k + 1, by omega, by go_num, _, rfl⟩
            case measure => simp [intOf]; omega
        · have hge : ¬ (k : Int) < (n : Int) := by omega
          clear hc
          go_wp2
          all_goals
            go_ret
            exact ⟨⟨_, rfl⟩, rfl⟩

end Go.Proofs.Qxb6623457a
