/-
  SHARED FACTS for the laws of seat b6621640a: what a slice of bytes reads as in a world; plain facts on owned rows.
-/
import Derived.Test.Qxb6621640aRows
import Derived.WalkKit
import Derived.WalkSpells
import Derived.WalkLawsBesides
import Derived.Laws.CopyOwn
import Derived.Laws.AppendOwnNone
namespace Go.Proofs.Qxb6621640a
open Go.RowKit
set_option linter.unusedSimpArgs false
set_option linter.unusedVariables false

/-- the slice with address 'a' and length 'n' reads, in w, as the numbers xs -/
structure Rd (w : World) (a : Option Addr) (n : Nat) (xs : List Int) : Prop where
  len : xs.length = n
  cel : 0 < n → ∃ b off, a = some ⟨b, off, none⟩ ∧ ∀ j, j < n → w.cell? ⟨b, off + j, none⟩ = some (.int .u8 (xs.getD j 0))

theorem Rd.later {w w' : World} {a : Option Addr} {n : Nat} {xs : List Int} (h : Rd w a n xs) (hb : Below w.heap.size w w') : Rd w' a n xs := by
  refine ⟨h.len, fun hn => ?_⟩
  obtain ⟨b, off, rfl, hc⟩ := h.cel hn
  refine ⟨b, off, rfl, fun j hj => ?_⟩
  have hlt := World.block_lt_of_cell? w _ (hc j hj)
  rw [hb.cell (p := ⟨b, off + j, none⟩) hlt]
  exact hc j hj

theorem Rd.grown {w w' : World} {a : Option Addr} {n : Nat} {xs : List Int} {row : Option Nat} (h : Rd w a n xs) (hg : w.grownBy w' row) (hne : ∀ b o s, a = some ⟨b, o, s⟩ → some b ≠ row) : Rd w' a n xs := by
  refine ⟨h.len, fun hn => ?_⟩
  obtain ⟨b, off, rfl, hc⟩ := h.cel hn
  exact ⟨b, off, rfl, fun j hj => hg.cell (hc j hj) (hne b off none rfl)⟩

theorem getD_take (zs : List Int) (n j : Nat) (h : j < n) : (zs.take n).getD j 0 = zs.getD j 0 := by
  simp [List.getD, List.getElem?_take, h]

theorem Rd.of_row {w : World} {a : Option Addr} {len cap : Nat} {zs : List Int}
    (h : (a = none ∧ len = 0 ∧ cap = 0 ∧ zs = []) ∨ ∃ x, a = some x ∧ len ≤ cap ∧ cap ≤ maxLen ∧ zs.length = cap ∧ (∀ i, i < zs.length → w.cell? (x.add i) = some (.int .u8 (zs.getD i 0))) ∧ ∀ n ∈ zs, (Lit.int .u8 n).wf = true) :
    Rd w a len (zs.take len) := by
  rcases h with ⟨rfl, rfl, rfl, rfl⟩ | ⟨x, rfl, hl, hm, hz, hcell, _⟩
  · exact ⟨rfl, fun h => absurd h (by omega)⟩
  · refine ⟨by simp; omega, fun hn => ?_⟩
    obtain ⟨b, off, spot⟩ := x
    have hspot : spot = none := by simpa [Addr.add] using World.cell?_spot (hcell 0 (by omega))
    subst hspot
    refine ⟨b, off, rfl, fun j hj => ?_⟩
    rw [getD_take _ _ _ hj]
    have := hcell j (by omega)
    rwa [Addr.add_lit] at this

theorem Rd.of_own {w : World} {B n c : Nat} {a : Option Addr} {xs : List Int} (h : w.ownsRow B 5 1 (.slice a n c) n (xs.map (Value.int .u8))) : Rd w a n xs := by
  have hlen : xs.length = n := by simpa using h.1
  refine ⟨hlen, fun hn => ?_⟩
  rcases h.2 with ⟨_, h0⟩ | ⟨g, cap, cur, hv, _⟩
  · omega
  · simp only [Value.slice.injEq, true_and] at hv
    obtain ⟨rfl, rfl⟩ := hv
    refine ⟨g, 0, rfl, fun j hj => ?_⟩
    rw [Nat.zero_add, h.cellAt j (by omega)]
    simp [List.getD, show j < xs.length by omega]

theorem own_shape {w : World} {B e s n : Nat} {v : Value} {xs : List Value} (h : w.ownsRow B e s v n xs) : ∃ a c, v = .slice a n c := by
  rcases h.2 with ⟨rfl, rfl⟩ | ⟨g, cap, cur, rfl, _⟩
  · exact ⟨_, _, rfl⟩
  · exact ⟨_, _, rfl⟩

theorem grown_trans {w1 w2 w3 : World} {row : Option Nat} (h : w1.grownBy w2 row) (k : w2.grownBy w3 row) : w1.grownBy w3 row :=
  ⟨k.os.trans h.os, k.tape.trans h.tape, k.output.trans h.output, Nat.le_trans h.size k.size, fun i hi hr => (k.block i (Nat.lt_of_lt_of_le hi h.size) hr).trans (h.block i hi hr)⟩

theorem grown_of_below {w w' : World} (h : Below w.heap.size w w') (row : Option Nat) : w.grownBy w' row :=
  ⟨h.os, h.tape, h.output, h.size, fun k hk _ => h.block k hk⟩

theorem below_of_grown {w w' : World} {B : Nat} {row : Option Nat} (hg : w.grownBy w' row) (hB : B ≤ w.heap.size) (hr : ∀ k, row = some k → B ≤ k) : Below B w w' :=
  (Below.refl _ _).grown hg hB hr

theorem own_block {w : World} {B e g n : Nat} {xs : List Value} (h : w.ownsRow B e 1 (.slice (some ⟨g, 0, none⟩) n n) n xs) : w.heap[g]? = some (.cells xs.toArray e (0, 0)) := by
  have hlen : xs.length = n := by simpa using h.1
  rcases h.2 with ⟨h', _⟩ | ⟨g', cap', cur, h', _, hg, _, _, hcs, htake⟩
  · simp at h'
  · simp only [Value.slice.injEq, Option.some.injEq, Addr.mk.injEq, and_true, true_and] at h'
    obtain ⟨rfl, rfl⟩ := h'
    rw [List.take_of_length_le (by rw [Array.length_toList]; omega)] at htake
    subst htake
    simpa using hg

theorem own_mk {w : World} {B e g n : Nat} {xs : List Value} (hg : w.heap[g]? = some (.cells xs.toArray e (0, 0))) (hB : B ≤ g) (hl : xs.length = n) (hm : n ≤ maxLen) : w.ownsRow B e 1 (.slice (some ⟨g, 0, none⟩) n n) n xs :=
  ⟨by omega, .inr ⟨g, n, xs.toArray, rfl, hB, hg, Nat.le_refl _, hm, by simp; omega, by rw [Nat.mul_one]; exact List.take_of_length_le (by simp; omega)⟩⟩

theorem own_none {w : World} {B e s n c : Nat} {a : Option Addr} {xs : List Value} (h : w.ownsRow B e s (.slice a n c) n xs) : a = none → n = 0 ∧ c = 0 := by
  intro ha
  subst ha
  rcases h.2 with ⟨h', _⟩ | ⟨g', cap', cur, h', _⟩
  · simpa using h'
  · simp at h'

theorem own_cap {w : World} {B e s n c : Nat} {a : Option Addr} {xs : List Value} (h : w.ownsRow B e s (.slice a n c) n xs) : n ≤ c := by
  rcases h.2 with ⟨h', h0⟩ | ⟨g', cap', cur, h', _, _, hc, _⟩
  · omega
  · simp only [Value.slice.injEq, true_and] at h'
    omega

theorem Rd.takeCells {w : World} {a : Option Addr} {n i : Nat} {xs : List Int} (h : Rd w a n xs) (hi : i ≤ n) :
    ∀ ad, a = some ad → ∀ j u, ((xs.take i).map (Value.int .u8))[j]? = some u → w.cell? (ad.add j) = some u := by
  intro ad ha j u hu
  have hl := h.len
  have hj : j < i := by
    have := (List.getElem?_eq_some_iff.1 hu).1
    simp at this; omega
  obtain ⟨b, off, hb, hc⟩ := h.cel (by omega)
  rw [ha] at hb
  obtain rfl := Option.some.inj hb
  rw [Addr.add_lit, hc j (by omega)]
  simpa [List.getD, hj, show j < xs.length by omega, List.getElem?_take] using hu

theorem Rd.dropCells {w : World} {a : Option Addr} {n i c : Nat} {xs : List Int} (h : Rd w a n xs) (hc : n ≤ c) :
    ∀ ad, (if c = i then a else Option.map (fun x => x.add i) a) = some ad → ∀ j u, ((xs.drop i).map (Value.int .u8))[j]? = some u → w.cell? (ad.add j) = some u := by
  intro ad ha j u hu
  have hl := h.len
  have hj : i + j < n := by
    have := (List.getElem?_eq_some_iff.1 hu).1
    simp at this; omega
  obtain ⟨b, off, hb, hcl⟩ := h.cel (by omega)
  rw [if_neg (by omega), hb] at ha
  simp only [Option.map_some, Option.some.injEq] at ha
  subst ha
  rw [Addr.add_lit, Addr.add_lit, Nat.add_assoc, hcl (i + j) hj]
  simpa [List.getD, show i + j < xs.length by omega] using hu

theorem splice_whole {α : Type} (L cs : List α) (h : cs.length = L.length) : splice L 0 cs = cs := by simp [splice, h]

theorem info5 : (Try.prog.info? 5).map (fun i => (i.zero, i.size, i.bytes)) = some (some (.int .u8 0), 1, 1) := by kernel_rfl

end Go.Proofs.Qxb6621640a
