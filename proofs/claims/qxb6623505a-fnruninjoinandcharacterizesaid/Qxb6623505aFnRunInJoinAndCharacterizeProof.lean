/-
  THE PROOF OF 'Rows.FnRunInJoinAndCharacterizeSaid': the frame after the guide's own shell for a law over slices, at this function's number and types; the array by 'DataW.trod_array'.
-/
import Derived.Test.Qxb6623505aRows
import Derived.WalkKit
import Derived.ProofKit
import Derived.OpenShut
import Derived.ShutString
import Derived.ChangeOld
import Derived.Below
import Derived.Test.Qxb6623505aWalk
namespace Go.Proofs.Qxb6623505a.fnRunInJoinAndCharacterize
open Go.ChangeShapes Go.WideShapes Go.ChangeAt Go.RowKit
open Go.ChangeMaps (open_string shut_string)
set_option linter.unusedVariables false

theorem own : ownKnob Try.prog.godebug = none := by kernel_rfl
theorem laidOut : laidOutB Try.prog = true := by kernel_rfl
theorem cells4 : Try.prog.cellsOf 4 = 1 := by kernel_rfl
theorem cells23 : Try.prog.cellsOf 23 = 256 := by kernel_rfl

theorem rf_of_cells {w : World} {x : Addr} {L len : Nat} {f : Nat → Value} (h : ∀ i, i < L → w.cell? (x.add i) = some (f i)) (hl : len ≤ L) : Rf w (some x) len f := by
  refine ⟨fun hn => ?_⟩
  obtain ⟨b, off, spot⟩ := x
  have hspot : spot = none := by simpa [Addr.add] using World.cell?_spot (h 0 (by omega))
  subst hspot
  refine ⟨b, off, rfl, fun j hj => ?_⟩
  have := h j (by omega)
  rwa [Addr.add_lit] at this

theorem byte_getD {zs : List Int} (h : ∀ n ∈ zs, (Lit.int .u8 n).wf = true) (j : Nat) : 0 ≤ zs.getD j 0 ∧ zs.getD j 0 ≤ 255 := by
  by_cases hj : j < zs.length
  · have := bounds_u8 (h zs[j] (List.getElem_mem hj))
    simpa [List.getD, hj] using this
  · simp [List.getD, hj]

theorem open_bytes {W : World} {a : Option Addr} {len cap : Nat} {x : Addr} {zs : List Int} (ha : a = some x) (hl : len ≤ cap) (hm : cap ≤ maxLen) (hz : zs.length = cap) (hcell : ∀ i, i < zs.length → W.cell? (x.add i) = some (.int .u8 (zs.getD i 0))) (hwz : ∀ n ∈ zs, (Lit.int .u8 n).wf = true) :
    ∃ Z : Nat → Nat, Rf W a len (fun j => .int .u8 (Z j : Int)) ∧ (∀ j, Z j < 256) ∧ len ≤ 9223372036854775807 := by
  subst ha
  refine ⟨fun j => (zs.getD j 0).toNat, rf_of_cells (L := zs.length) (fun i hi => ?_) (by omega), fun j => ?_, by unfold maxLen at hm; omega⟩
  · have hb := byte_getD hwz i
    rw [hcell i hi, Int.toNat_of_nonneg hb.1]
  · have hb := byte_getD hwz j
    show (zs.getD j 0).toNat < 256
    omega

set_option maxRecDepth 100000 in
theorem lifted (os : Os) (started : os.Started) (H : Type) (enc : TypeId × Value → H) :
    ReturnsInHanded {} Try.checked os 3 .any (Rows.fnRunInJoinAndCharacterizeSpec.pre6 enc Try.prog Try.f3 Rows.fnRunInJoinAndCharacterizeRow.domain false) (Rows.fnRunInJoinAndCharacterizeSpec.post enc Try.prog Try.f3 false true false false) := by
  refine returnsInHanded_of_change (C := Try.checked) own started (by kernel_rfl) Try.func3
    (ChangeSpec.witness6 (enc := enc) (C := Try.checked) false ⟨#[], #[.slice none 0 0, .slice none 0 0, .agg (Array.replicate 256 (.bool false))], []⟩ 8 (by kernel_rfl) (by kernel_rfl) (by kernel_rfl) (by kernel_rfl)) ?_
  intro W base args ds gs before hval0 hW hcnd _
  have hval : ∀ (j : Nat) t v, Try.f3.params[j]? = some t → args[j]? = some v → Value.okWide Try.prog W .any base t v := hval0
  have hW' := hW
  obtain ⟨p, q, hA0, hV, rfl, hfz, hnd⟩ := hW
  have hA : DataW.TrodAll enc Try.prog W 0 (fun _ => true) true Try.f3.params.toList args.toList ds p := hA0
  rw [Try.params3] at hA hval
  obtain ⟨v0, vs0, d0, ds0, p0, q0, hargs, rfl, rfl, h0, r0⟩ := trodAll_cons hA
  obtain ⟨v1, vs1, d1, ds1, p1, q1, rfl, rfl, rfl, h1, r1⟩ := trodAll_cons r0
  obtain ⟨v2, vs2, d2, ds2, p2, q2, rfl, rfl, rfl, h2, r2⟩ := trodAll_cons r1
  obtain ⟨rfl, rfl, rfl⟩ := trodAll_nil r2
  obtain rfl : args = #[v0, v1, v2] := by cases args; simp_all
  obtain ⟨rfl, rfl⟩ := trodVars_none hV
  obtain ⟨a0, len0, cap0, rfl⟩ := okWide_slice Try.underlying22 (hval 0 22 v0 rfl rfl)
  have k0 := h0
  have lt0 : ∀ x ∈ p0, x.block < W.heap.size := by obtain ⟨m, hm⟩ := k0; exact DataW.trod_lt m _ _ _ hm
  obtain ⟨Za, w0, z0, m0⟩ : ∃ Z : Nat → Nat, Rf W a0 len0 (fun j => .int .u8 (Z j : Int)) ∧ (∀ j, Z j < 256) ∧ len0 ≤ 9223372036854775807 := by
    obtain ⟨fuel, hf⟩ := h0
    rcases open_ints Try.underlying22 Try.underlying5 (by kernel_rfl) hf with ⟨hcs, _⟩ | ⟨x, l, c, zs, hcs, _, hl, hm, hz, _, hcell, hwz⟩
    · simp [Value.cells] at hcs
      obtain ⟨rfl, rfl, rfl⟩ := hcs
      exact ⟨fun _ => 0, ⟨fun h => absurd h (by omega)⟩, fun _ => (by decide : (0 : Nat) < 256), by omega⟩
    · simp [Value.cells] at hcs
      obtain ⟨rfl, rfl, rfl⟩ := hcs
      exact open_bytes rfl hl hm (by simpa using hz) hcell hwz
  obtain ⟨a1, len1, cap1, rfl⟩ := okWide_slice Try.underlying22 (hval 1 22 v1 rfl rfl)
  have k1 := h1
  have lt1 : ∀ x ∈ p1, x.block < W.heap.size := by obtain ⟨m, hm⟩ := k1; exact DataW.trod_lt m _ _ _ hm
  obtain ⟨Zc, w1, z1, m1⟩ : ∃ Z : Nat → Nat, Rf W a1 len1 (fun j => .int .u8 (Z j : Int)) ∧ (∀ j, Z j < 256) ∧ len1 ≤ 9223372036854775807 := by
    obtain ⟨fuel, hf⟩ := h1
    rcases open_ints Try.underlying22 Try.underlying5 (by kernel_rfl) hf with ⟨hcs, _⟩ | ⟨x, l, c, zs, hcs, _, hl, hm, hz, _, hcell, hwz⟩
    · simp [Value.cells] at hcs
      obtain ⟨rfl, rfl, rfl⟩ := hcs
      exact ⟨fun _ => 0, ⟨fun h => absurd h (by omega)⟩, fun _ => (by decide : (0 : Nat) < 256), by omega⟩
    · simp [Value.cells] at hcs
      obtain ⟨rfl, rfl, rfl⟩ := hcs
      exact open_bytes rfl hl hm (by simpa using hz) hcell hwz
  have k2 := h2
  have lt2 : ∀ x ∈ p2, x.block < W.heap.size := by obtain ⟨m, hm⟩ := k2; exact DataW.trod_lt m _ _ _ hm
  obtain ⟨C, rfl, hsz⟩ : ∃ C, v2 = .agg C ∧ C.size = 256 := by
    have hv := hval 2 23 v2 rfl rfl
    simp only [Value.okWide, Try.underlying23] at hv
    obtain ⟨cs, e1, e2, _⟩ := hv
    exact ⟨cs, e1, by rw [e2, cells23]⟩
  obtain ⟨S, hS⟩ : ∃ S : Nat → Bool, ∀ i, i < 256 → C[i]? = some (.bool (S i)) := by
    obtain ⟨fuel, hf⟩ := h2
    obtain ⟨xs, m, _, _, hlen, hl, hel⟩ := DataW.trod_array Try.underlying23 hf
    have each : ∀ i, i < 256 → ∃ b, C[i]? = some (.bool b) := by
      intro i hi
      have h3 := hel i hi
      rw [cells4, Nat.mul_one, List.getElem?_eq_getElem (by omega)] at h3
      obtain ⟨b, hb, _⟩ := DataW.trod_bool Try.underlying4 h3
      refine ⟨b, ?_⟩
      have h4 : i < C.toList.length := by simp; omega
      simp only [Value.cells] at hb
      rw [List.drop_eq_getElem_cons h4] at hb
      simp at hb
      rw [Array.getElem?_eq_getElem (by omega), hb]
    exact ⟨fun i => if h : i < 256 then Classical.choose (each i h) else false, fun i hi => by
      show C[i]? = some (.bool (if h : i < 256 then Classical.choose (each i h) else false))
      rw [dif_pos hi]
      exact Classical.choose_spec (each i hi)⟩
  clear hA0 hval0
  refine (rj_any a0 a1 cap0 cap1 len0 len1 C S Za Zc W w0 w1 z0 z1 hsz hS m0 m1).mono fun e W' ⟨he, bel⟩ => ?_
  subst he
  exact ⟨_, rfl, _, _, _, [], _, [], hW', trodAll_mk1 (shut_bool Try.underlying4 _), (trodAll_cons_mk (Below.trod laidOut (by kernel_rfl) (of_decide_eq_true (by kernel_rfl)) k0 bel lt0) (trodAll_cons_mk (Below.trod laidOut (by kernel_rfl) (of_decide_eq_true (by kernel_rfl)) k1 bel lt1) (trodAll_cons_mk (Below.trod laidOut (by kernel_rfl) (of_decide_eq_true (by kernel_rfl)) k2 bel lt2) trodAll_mk0))), rfl, bel.frame _, fun h => by cases h⟩

theorem over : Rows.fnRunInJoinAndCharacterizeRow.holds Try.pinned (OpenSpec.ofChange Rows.fnRunInJoinAndCharacterizeSpec) :=
  OpenClaim.holds_of_wide 3 Try.f3 rfl rfl rfl rfl rfl rfl rfl ⟨rfl, rfl, rfl, rfl, rfl⟩ rfl rfl rfl rfl rfl (by kernel_rfl) Try.func3 (by kernel_rfl)
    (of_decide_eq_true (by kernel_rfl)) (by unfold Func.isWrapper; first | (rw [if_pos (by decide +kernel)]; kernel_rfl) | (rw [if_neg (by decide +kernel)]; exact ⟨rfl, rfl⟩))
    (fun os started H enc _ => lifted os started H enc)

/-- ████ THE STATEMENT ████ -/
theorem proved : Rows.FnRunInJoinAndCharacterizeSaid := over
#print axioms proved
end Go.Proofs.Qxb6623505a.fnRunInJoinAndCharacterize
