/-
  SHARED FACTS and CONTRACTS for the law of seat b6623505a: the bound (4), runIn (7), ZZRunIn (5), isRunStart (6).
-/
import Derived.Test.Qxb6623505aRows
import Derived.WalkKit
import Derived.WalkSpells
import Derived.WalkLawsBesides
import Derived.Laws.CopyOwn
import Derived.Laws.AppendOwnNone
import Derived.Deep.QuietTactic
import Derived.BigQuiet
import Derived.Deep.RegionWith
import Derived.Deep.DeepCutAuto
namespace Go.Proofs.Qxb6623505a
open Go.RowKit
set_option linter.unusedSimpArgs false
set_option linter.unusedVariables false

/-- the slice with address 'a' and length 'n' reads, in w, element by element, as f -/
structure Rf (w : World) (a : Option Addr) (n : Nat) (f : Nat → Value) : Prop where
  cel : 0 < n → ∃ b off, a = some ⟨b, off, none⟩ ∧ ∀ j, j < n → w.cell? ⟨b, off + j, none⟩ = some (f j)

theorem Rf.later {w w' : World} {a : Option Addr} {n : Nat} {f : Nat → Value} (h : Rf w a n f) (hb : Below w.heap.size w w') : Rf w' a n f := by
  refine ⟨fun hn => ?_⟩
  obtain ⟨b, off, rfl, hc⟩ := h.cel hn
  refine ⟨b, off, rfl, fun j hj => ?_⟩
  have hlt := World.block_lt_of_cell? w _ (hc j hj)
  rw [hb.cell (p := ⟨b, off + j, none⟩) hlt]
  exact hc j hj

theorem Rf.of_own {w : World} {B e n c : Nat} {a : Option Addr} {f : Nat → Value} (h : w.ownsRow B e 1 (.slice a n c) n ((List.range n).map f)) : Rf w a n f := by
  refine ⟨fun hn => ?_⟩
  rcases h.2 with ⟨_, h0⟩ | ⟨g, cap, cur, hv, _⟩
  · omega
  · simp only [Value.slice.injEq, true_and] at hv
    obtain ⟨rfl, rfl⟩ := hv
    refine ⟨g, 0, rfl, fun j hj => ?_⟩
    rw [Nat.zero_add, h.cellAt j (by omega)]
    simp [hj]

theorem own_block {w : World} {B e g n : Nat} {xs : List Value} (h : w.ownsRow B e 1 (.slice (some ⟨g, 0, none⟩) n n) n xs) : w.heap[g]? = some (.cells xs.toArray e (0, 0)) := by
  have hlen : xs.length = n := by simpa using h.1
  rcases h.2 with ⟨h', _⟩ | ⟨g', cap', cur, h', _, hg, _, _, hcs, htake⟩
  · simp at h'
  · simp only [Value.slice.injEq, Option.some.injEq, Addr.mk.injEq, and_true, true_and] at h'
    obtain ⟨rfl, rfl⟩ := h'
    rw [List.take_of_length_le (by rw [Array.length_toList]; omega)] at htake
    subst htake
    simpa using hg

theorem own_mk {w : World} {B e g n : Nat} {xs : List Value} (hg : w.heap[g]? = some (.cells xs.toArray e (0, 0))) (hB : B ≤ g) (hl : xs.length = n) (hm : n ≤ maxLen) : w.ownsRow B e 1 (.slice (some ⟨g, 0, none⟩) n n) n xs :=
  ⟨by omega, .inr ⟨g, n, xs.toArray, rfl, hB, hg, Nat.le_refl _, hm, by simp; omega, by rw [Nat.mul_one]; exact List.take_of_length_le (by simp; omega)⟩⟩

theorem splice_whole {α : Type} (L cs : List α) (h : cs.length = L.length) : splice L 0 cs = cs := by simp [splice, h]

theorem below_of_grown {w w' : World} {B : Nat} {row : Option Nat} (hg : w.grownBy w' row) (hB : B ≤ w.heap.size) (hr : ∀ k, row = some k → B ≤ k) : Below B w w' :=
  (Below.refl _ _).grown hg hB hr

theorem cells_of_rf {w : World} {ad : Addr} {n : Nat} {f : Nat → Value} (h : Rf w (some ad) n f) : ∀ j v, ((List.range n).map f)[j]? = some v → w.cell? (ad.add j) = some v := by
  intro j v hv
  have hj : j < n := by
    have := (List.getElem?_eq_some_iff.1 hv).1
    simpa using this
  obtain ⟨b, off, hb, hc⟩ := h.cel (by omega)
  obtain rfl := Option.some.inj hb
  rw [Addr.add_lit, hc j hj]
  simpa [hj] using hv

theorem info5 : (Try.prog.info? 5).map (fun i => (i.zero, i.size, i.bytes)) = some (some (.int .u8 0), 1, 1) := by kernel_rfl

/-- a bool was returned -/
def AnsB (e : Ending) : Prop := ∃ r : Bool, e = .returned (.bool r)

set_option maxHeartbeats 400000 in
theorem bytes4_any (a b : Option Addr) (n c n' c' : Nat) (C : Array Value) (w : World) (hn : n ≤ 9223372036854775807) (hn' : n' ≤ 9223372036854775807) :
    Calls Try.prog 4 #[.slice a n c, .slice b n' c', .agg C] w fun e w' => AnsB e ∧ Below w.heap.size w w' := by
  go_enter Try.func4, Try.ntmps4
  go_wp2
  all_goals
    go_ret
    exact ⟨⟨_, rfl⟩, (Below.refl _ _).alloc (Nat.le_refl _) _⟩

/-- block s holds the set S -/
structure SetAt (w : World) (s : Nat) (S : Nat → Bool) : Prop where
  cel : ∀ i, i < 256 → w.cell? ⟨s, i, none⟩ = some (.bool (S i))

theorem SetAt.later {w w' : World} {s : Nat} {S : Nat → Bool} (h : SetAt w s S) (hb : Below w.heap.size w w') : SetAt w' s S := by
  refine ⟨fun i hi => ?_⟩
  have hlt := World.block_lt_of_cell? w _ (h.cel i hi)
  rw [hb.cell (p := ⟨s, i, none⟩) hlt]
  exact h.cel i hi

/-- r is where the run of bytes of S that ends the n bytes Z begins -/
structure Run (S : Nat → Bool) (Z : Nat → Nat) (n r : Nat) : Prop where
  le : r ≤ n
  ins : ∀ j, r ≤ j → j < n → S (Z j) = true
  out : 0 < r → S (Z (r - 1)) = false

set_option maxHeartbeats 1000000 in
theorem run_any (a : Option Addr) (n c s r : Nat) (S : Nat → Bool) (Z : Nat → Nat) (w : World) (h : Rf w a n (fun j => .int .u8 (Z j : Int))) (hS : SetAt w s S) (hZ : ∀ j, Z j < 256) (hn : n ≤ 1000000000) (hR : Run S Z n r) :
    Calls Try.prog 7 #[.slice a n c, .pointer (some ⟨s, 0, none⟩)] w fun e w' => e = .returned (.int .i64 (r : Int)) ∧ ∃ q, w' = w.drewN q := by
  have hrn := hR.le
  have HR : Hid (Run S Z n r) := hR
  have HA : Hid (Rf w a n (fun j => .int .u8 (Z j : Int))) := h
  have HS : Hid (SetAt w s S) := hS
  have HZ : Hid (∀ j, Z j < 256) := hZ
  clear h hS hR hZ
  go_enter Try.func7, Try.ntmps7
  go_wp2
  go_loopw [5] (fun i wr => ∃ k : Nat, r ≤ k ∧ k ≤ n ∧ i = .int .i64 k ∧ (∃ q, wr = w.drewN q)) (fun i _ => (intOf i).toNat)
  case atStart => exact ⟨n, hrn, Nat.le_refl _, rfl, ⟨0, rfl⟩⟩
  case round =>
    obtain ⟨k, hk1, hk2, rfl, ⟨q, rfl⟩⟩ := hrel
    by_cases hk0 : k = 0
    · subst hk0
      have HE : Hid (r = 0) := by show _ = _; omega
      go_wp2
      go_quiet (fail)
      go_wp2
      go_ret
      exact ⟨by rw [HE.out]; rfl, _, by rw [World.drewN_drewN]⟩
    · obtain ⟨k', rfl⟩ : ∃ k', k = k' + 1 := ⟨k - 1, by omega⟩
      obtain ⟨b, off, ha, hc⟩ := HA.out.cel (by omega)
      have c0 := hc k' (by omega)
      have hz := HZ.out k'
      have c1 := HS.out.cel (Z k') hz
      subst ha
      have hki : (k' : Int) < (n : Int) := by omega
      have hpos : (0 : Int) < (k' : Int) + 1 := by omega
      by_cases hkr : r < k' + 1
      · have hin := HR.out.ins k' (by omega) (by omega)
        rw [hin] at c1
        clear hc HA HS HR HZ hin
        generalize Z k' = z at *
        have hzi : (z : Int) < 256 := by omega
        go_wp2
        go_quiet (fail)
        go_wp2
        go_roundw
        case rel => exact ⟨k', by omega, by omega, rfl, ⟨_, rfl⟩⟩
        case measure => simp [intOf]
      · have hin := HR.out.out (by omega)
        rw [show r - 1 = k' by omega] at hin
        rw [hin] at c1
        have HE : Hid (r = k' + 1) := by show _ = _; omega
        clear hc HA HS HR HZ hin
        generalize Z k' = z at *
        have hzi : (z : Int) < 256 := by omega
        go_wp2
        go_quiet (fail)
        go_wp2
        go_ret
        exact ⟨by rw [HE.out]; rfl, _, by rw [World.drewN_drewN]⟩

set_option maxHeartbeats 400000 in
theorem zrun_any (a : Option Addr) (n c s r : Nat) (S : Nat → Bool) (Z : Nat → Nat) (w : World) (h : Rf w a n (fun j => .int .u8 (Z j : Int))) (hS : SetAt w s S) (hZ : ∀ j, Z j < 256) (hn : n ≤ 1000000000) (hR : Run S Z n r) :
    Calls Try.prog 5 #[.slice a n c, .pointer (some ⟨s, 0, none⟩)] w fun e w' => e = .returned (.int .i64 (r : Int)) ∧ ∃ q, w' = w.drewN q := by
  have HZ : Hid (∀ j, Z j < 256) := hZ
  clear hZ
  go_enter Try.func5, Try.ntmps5
  go_wp2_with fail
  refine (run_any a n c s r S Z _ h hS HZ.out hn hR).mono ?_
  rintro e w1 ⟨rfl, q, rfl⟩
  go_wp2
  go_ret
  exact ⟨rfl, _, rfl⟩

set_option maxHeartbeats 1000000 in
theorem start_any (a : Option Addr) (n c s r : Nat) (S : Nat → Bool) (Z : Nat → Nat) (w : World) (h : Rf w a n (fun j => .int .u8 (Z j : Int))) (hS : SetAt w s S) (hZ : ∀ j, Z j < 256) (hn : n ≤ 1000000000) (hR : Run S Z n r) :
    Calls Try.prog 6 #[.slice a n c, .pointer (some ⟨s, 0, none⟩), .int .i64 (r : Int)] w fun e w' => e = .returned (.bool true) ∧ ∃ q, w' = w.drewN q := by
  have hrn := hR.le
  have HR : Hid (Run S Z n r) := hR
  have HA : Hid (Rf w a n (fun j => .int .u8 (Z j : Int))) := h
  have HS : Hid (SetAt w s S) := hS
  have HZ : Hid (∀ j, Z j < 256) := hZ
  have g1 : ¬ (r : Int) < 0 := by omega
  have g2 : ¬ (n : Int) < (r : Int) := by omega
  clear h hS hR hZ
  go_enter Try.func6, Try.ntmps6
  go_wp2
  go_loopw [7] (fun i wr => ∃ k : Nat, r ≤ k ∧ k ≤ n ∧ i = .int .i64 k ∧ (∃ q, wr = w.drewN q)) (fun i _ => n - (intOf i).toNat)
  case atStart => exact ⟨r, Nat.le_refl _, hrn, rfl, ⟨0, rfl⟩⟩
  case round =>
    obtain ⟨k, hk1, hk2, rfl, ⟨q, rfl⟩⟩ := hrel
    by_cases hlt : k < n
    · obtain ⟨b, off, ha, hc⟩ := HA.out.cel (by omega)
      have c0 := hc k (by omega)
      have hz := HZ.out k
      have c1 := HS.out.cel (Z k) hz
      have hin := HR.out.ins k hk1 hlt
      rw [hin] at c1
      subst ha
      have hki : (k : Int) < (n : Int) := by omega
      clear hc HA HS HR HZ hin
      generalize Z k = z at *
      have hzi : (z : Int) < 256 := by omega
      go_wp2
      go_quiet (fail)
      go_wp2
      go_roundw
      case rel => exact ⟨k + 1, by omega, by omega, by go_num, ⟨_, rfl⟩⟩
      case measure => simp [intOf]; omega
    · have hge : ¬ (k : Int) < (n : Int) := by omega
      clear hk1 hk2 hlt
      by_cases hr0 : r = 0
      · subst hr0
        clear HA HS HR HZ
        go_wp2
        go_quiet (fail)
        go_wp2
        go_ret
        exact ⟨rfl, _, by rw [World.drewN_drewN]⟩
      · obtain ⟨r', rfl⟩ : ∃ r', r = r' + 1 := ⟨r - 1, by omega⟩
        obtain ⟨b, off, ha, hc⟩ := HA.out.cel (by omega)
        have c0 := hc r' (by omega)
        have hz := HZ.out r'
        have c1 := HS.out.cel (Z r') hz
        have hin := HR.out.out (by omega)
        rw [show r' + 1 - 1 = r' by omega] at hin
        rw [hin] at c1
        subst ha
        have hki : (r' : Int) < (n : Int) := by omega
        have hpos : (0 : Int) < (r' : Int) + 1 := by omega
        clear hc HA HS HR HZ hin
        generalize Z r' = z at *
        have hzi : (z : Int) < 256 := by omega
        go_wp2
        go_quiet (fail)
        go_wp2
        go_ret
        exact ⟨rfl, _, by rw [World.drewN_drewN]⟩

end Go.Proofs.Qxb6623505a
