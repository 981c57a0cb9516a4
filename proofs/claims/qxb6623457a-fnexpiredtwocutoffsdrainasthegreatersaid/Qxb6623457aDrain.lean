/-
  CONTRACT: drainAgesJournalB1 (12).
-/
import Derived.Test.Qxb6623457aNew
namespace Go.Proofs.Qxb6623457a
open Go.RowKit
set_option linter.unusedSimpArgs false
set_option linter.unusedVariables false

/-- the cells of the entries 0 .. k-1 -/
def ents (I : Nat → ByteArray) (T : Nat → Int) : Nat → List Value
  | 0 => []
  | k + 1 => ents I T k ++ [.string (I k), .int .i64 (T k)]

theorem ents_length (I : Nat → ByteArray) (T : Nat → Int) (k : Nat) : (ents I T k).length = k * 2 := by
  induction k with
  | zero => rfl
  | succ k ih => simp [ents, ih]; omega

theorem ents_get (I : Nat → ByteArray) (T : Nat → Int) (k j : Nat) (h : j < k) : (ents I T k)[j * 2]? = some (.string (I j)) ∧ (ents I T k)[j * 2 + 1]? = some (.int .i64 (T j)) := by
  induction k with
  | zero => omega
  | succ k ih =>
    rw [ents]
    by_cases hj : j = k
    · subst hj
      rw [List.getElem?_append_right (by rw [ents_length]; omega), List.getElem?_append_right (by rw [ents_length]; omega), ents_length]
      rw [Nat.sub_self, show j * 2 + 1 - j * 2 = 1 by omega]
      exact ⟨rfl, rfl⟩
    · rw [List.getElem?_append_left (by rw [ents_length]; omega), List.getElem?_append_left (by rw [ents_length]; omega)]
      exact ih (by omega)

/-- block q is a row of the call's own whose first k entries are the entries 0 .. k-1 -/
def Acc (w : World) (B q k cap : Nat) (I : Nat → ByteArray) (T : Nat → Int) : Prop :=
  w.ownsRow B 28 2 (.slice (some ⟨q, 0, none⟩) k cap) k (ents I T k)

theorem Acc.same {w w' : World} {B q k cap : Nat} {I : Nat → ByteArray} {T : Nat → Int} (h : Acc w B q k cap I T) (hb : w'.heap[q]? = w.heap[q]?) : Acc w' B q k cap I T := by
  refine ⟨h.1, ?_⟩
  rcases h.2 with ⟨h', _⟩ | ⟨g', cap', cur, h', r1, hg, r2⟩
  · simp at h'
  · have h2 := h'
    simp only [Value.slice.injEq, Option.some.injEq, Addr.mk.injEq, and_true, true_and] at h2
    obtain ⟨rfl, rfl⟩ := h2
    exact .inr ⟨q, cap, cur, rfl, r1, by rw [hb]; exact hg, r2⟩

theorem Acc.lt {w : World} {B q k cap : Nat} {I : Nat → ByteArray} {T : Nat → Int} (h : Acc w B q k cap I T) : q < w.heap.size := (World.ownsRow.lt h q rfl).2
theorem Acc.later {w w' : World} {B q k cap : Nat} {I : Nat → ByteArray} {T : Nat → Int} (h : Acc w B q k cap I T) (hb : Below w.heap.size w w') : Acc w' B q k cap I T := h.same (hb.block q h.lt)
theorem Acc.cells {w : World} {B q k cap j : Nat} {I : Nat → ByteArray} {T : Nat → Int} (h : Acc w B q k cap I T) (hj : j < k) : w.cell? ⟨q, j * 2, none⟩ = some (.string (I j)) ∧ w.cell? ⟨q, j * 2 + 1, none⟩ = some (.int .i64 (T j)) := by
  have h2 := ents_get I T k j hj
  rw [World.ownsRow.cellAt h (j * 2) (by omega), World.ownsRow.cellAt h (j * 2 + 1) (by omega)]
  exact h2

/-- an Ages out of N entries of which k have been taken -/
def Ab (w : World) (p g : Nat) (f0 : Int) (N k : Nat) (I : Nat → ByteArray) (T : Nat → Int) : Prop := ∃ off, AgesAt w p g (f0 + k) off (N - k) k I T

theorem Ab.later {w w' : World} {p g N k : Nat} {f0 : Int} {I : Nat → ByteArray} {T : Nat → Int} (h : Ab w p g f0 N k I T) (hb : Below w.heap.size w w') : Ab w' p g f0 N k I T := by
  obtain ⟨off, h⟩ := h
  exact ⟨off, h.later hb⟩
theorem Ab.same {w w' : World} {p g N k : Nat} {f0 : Int} {I : Nat → ByteArray} {T : Nat → Int} (h : Ab w p g f0 N k I T) (h1 : w'.heap[p]? = w.heap[p]?) (h2 : w'.heap[g]? = w.heap[g]?) : Ab w' p g f0 N k I T := by
  obtain ⟨off, h⟩ := h
  obtain ⟨cur, hg, hs, hc⟩ := h.row
  exact ⟨off, by rw [h1]; exact h.box, ⟨cur, by rw [h2]; exact hg, hs, hc⟩, h.ne⟩
theorem Ab.pl {w : World} {p g N k : Nat} {f0 : Int} {I : Nat → ByteArray} {T : Nat → Int} (h : Ab w p g f0 N k I T) : p < w.heap.size := by obtain ⟨off, h⟩ := h; exact h.pl
theorem Ab.gl {w : World} {p g N k : Nat} {f0 : Int} {I : Nat → ByteArray} {T : Nat → Int} (h : Ab w p g f0 N k I T) : g < w.heap.size := by obtain ⟨off, h⟩ := h; exact h.gl

/-- only the blocks p, g, q, and new ones, may have turned -/
structure Kept3 (w w' : World) (p g q : Nat) : Prop where
  os : w'.os = w.os
  tape : w'.tape = w.tape
  output : w'.output = w.output
  size : w.heap.size ≤ w'.heap.size
  block : ∀ k, k < w.heap.size → k ≠ p → k ≠ g → k ≠ q → w'.heap[k]? = w.heap[k]?

theorem Kept3.refl (w : World) (p g q : Nat) : Kept3 w w p g q := ⟨rfl, rfl, rfl, Nat.le_refl _, fun _ _ _ _ _ => rfl⟩
theorem Kept3.trans {a b c : World} {p g q : Nat} (h : Kept3 a b p g q) (k : Kept3 b c p g q) : Kept3 a c p g q :=
  ⟨k.os.trans h.os, k.tape.trans h.tape, k.output.trans h.output, Nat.le_trans h.size k.size, fun i hi h1 h2 h3 => (k.block i (Nat.lt_of_lt_of_le hi h.size) h1 h2 h3).trans (h.block i hi h1 h2 h3)⟩
theorem Kept3.of_below {w w' : World} {p g q : Nat} (h : Below w.heap.size w w') : Kept3 w w' p g q := ⟨h.os, h.tape, h.output, h.size, fun k hk _ _ _ => h.block k hk⟩
theorem Kept3.of2 {w w' : World} {p g q : Nat} (h : Kept2 w w' p g) : Kept3 w w' p g q := ⟨h.os, h.tape, h.output, h.size, fun k hk h1 h2 _ => h.block k hk h1 h2⟩
theorem Kept3.of1 {w w' : World} {p g q : Nat} (h : w.grownBy w' (some q)) : Kept3 w w' p g q := ⟨h.os, h.tape, h.output, h.size, fun k hk _ _ h3 => h.block k hk (by simpa using h3)⟩
theorem Kept3.below {w w' : World} {p g q B : Nat} (h : Kept3 w w' p g q) (hB : B ≤ w.heap.size) (hp : B ≤ p) (hg : B ≤ g) (hq : B ≤ q) : Below B w w' :=
  ⟨h.os, h.tape, h.output, h.size, fun k hk => h.block k (by omega) (by omega) (by omega) (by omega)⟩

theorem two_new (w : World) (O : Obj) (a b : Value) (t : TypeId) : ∀ j u, [a, b][j]? = some u → ((w.alloc O).alloc (.cells #[a, b] t)).cell? ((⟨w.heap.size + 1, 0, none⟩ : Addr).add j) = some u := by
  intro j u hu
  have hn : ((w.alloc O).alloc (.cells #[a, b] t)).heap[w.heap.size + 1]? = some (.cells #[a, b] t) := by
    have := heap_alloc_new (w.alloc O) (.cells #[a, b] t)
    simpa using this
  rw [Addr.add_lit, Nat.zero_add, cell_of_row _ _ j _ t (0, 0) hn]
  match j, hu with
  | 0, hu => simpa using hu
  | 1, hu => simpa using hu

/-- what drain leaves -/
def Drained (e : Ending) (w w' : World) (B p g q L cap N : Nat) (f0 : Int) (I : Nat → ByteArray) (T : Nat → Int) : Prop :=
  e = .returned (.slice (some ⟨q, 0, none⟩) L cap) ∧ Acc w' B q L cap I T ∧ Ab w' p g f0 N L I T ∧ Kept3 w w' p g q

set_option maxHeartbeats 1000000 in
theorem drain_any (B p g q k cap L N n : Nat) (f0 cut : Int) (I : Nat → ByteArray) (T : Nat → Int) (w : World)
    (hA : Ab w p g f0 N k I T) (hQ : Acc w B q k cap I T) (hp : q ≠ p) (hg : q ≠ g) (hkL : k ≤ L) (hLN : L ≤ N) (hNc : N ≤ cap) (hNn : N ≤ n) (hn : n ≤ 1000000) (hf : 0 ≤ f0) (hf' : f0 ≤ 1073741824)
    (hT : ∀ j, k ≤ j → j < L → T j ≤ cut) (hT' : L < N → cut < T L) :
    Calls Try.prog 12 #[.pointer (some ⟨p, 0, none⟩), .int .i64 cut, .int .i64 (n : Int), .slice (some ⟨q, 0, none⟩) k cap] w fun e w' => Drained e w w' B p g q L cap N f0 I T := by
  obtain ⟨i0, hi0, hz0, hz1, hz2⟩ := info_parts info28
  have HA : Hid (Ab w p g f0 N k I T) := hA
  have HQ : Hid (Acc w B q k cap I T) := hQ
  have HT : Hid (∀ j, k ≤ j → j < L → T j ≤ cut) := hT
  have HT' : Hid (L < N → cut < T L) := hT'
  clear hA hQ hT hT'
  go_enter Try.func12, Try.ntmps12
  go_wp2
  go_loopw [3, 9] (fun s i wr => ∃ j : Nat, k + j ≤ L ∧ i = .int .i64 j ∧ s = .slice (some ⟨q, 0, none⟩) (k + j) cap ∧ Acc wr B q (k + j) cap I T ∧ Ab wr p g f0 N (k + j) I T ∧ Kept3 w wr p g q) (fun _ i _ => n + 1 - (intOf i).toNat)
  case atStart => exact ⟨0, by omega, rfl, rfl, HQ.out, HA.out, Kept3.refl _ _ _ _⟩
  case round =>
    obtain ⟨j, hj, rfl, rfl, hQj, hAj, hKj⟩ := hrel
    clear HA HQ
    have hjn : (j : Int) ≤ (n : Int) := by omega
    have HQj : Hid (Acc wr B q (k + j) cap I T) := hQj
    have HKj : Hid (Kept3 w wr p g q) := hKj
    obtain ⟨off, hAj⟩ := hAj
    clear hQj hKj
    by_cases hlt : k + j < L
    · obtain ⟨m, hm⟩ : ∃ m, N - (k + j) = m + 1 := ⟨N - (k + j) - 1, by omega⟩
      rw [hm] at hAj
      have hmb : m ≤ 1000000 := by omega
      have HM : Hid (m = N - (k + (j + 1))) := by show _ = _; omega
      have hTj := HT.out (k + j) (by omega) hlt
      clear hm
      go_wp2_with fail
      refine (exp_yes p g off m (k + j) (f0 + ((k + j : Nat) : Int)) cut I T _ hAj (by omega) (by omega) (by omega) hTj).mono ?_
      rintro e w5 ⟨rfl, off', hA5, hk5⟩
      have hs5 : wr.heap.size ≤ w5.heap.size := hk5.size
      have hql := HQj.out.lt
      have HQ5 : Hid (Acc w5 B q (k + j) cap I T) := HQj.out.same (hk5.block q hql hp hg)
      have HA5 : Hid (AgesAt w5 p g (f0 + ((k + j : Nat) : Int) + 1) off' m (k + j + 1) I T) := hA5
      have HK5 : Hid (Kept3 w w5 p g q) := HKj.out.trans (Kept3.of2 hk5)
      clear hA5 hk5 hAj HQj HKj
      generalize hIj : I (k + j) = s at *
      generalize hTj' : T (k + j) = t at *
      have HI : Hid (I (k + j) = s) := hIj
      have HTT : Hid (T (k + j) = t) := hTj'
      clear hIj hTj'
      go_wp2_with (at_builtin; go_must (refine wpList_append_fits _ rfl (.tmp 26) (.tmp 28) 34 rfl B 28 i0 2 Try.underlying34 hi0 hz1 q (k + j) cap (ents I T (k + j)) rfl (World.ownsRow.alloc (World.ownsRow.alloc HQ5.out _) _) ⟨w5.heap.size + 1, 0, none⟩ 1 1 [.string s, .int .i64 t] rfl rfl (two_new _ _ _ _ _) (by intro u hu; simp at hu; rcases hu with rfl | rfl <;> rfl) (by omega) ?_))
      intro w6 hown6 hg6
      have hpl : p < w5.heap.size := HA5.out.pl
      have hgl : g < w5.heap.size := HA5.out.gl
      have HQ6 : Hid (Acc w6 B q (k + (j + 1)) cap I T) := by
        show w6.ownsRow _ _ _ _ _ _
        rw [show k + (j + 1) = k + j + 1 by omega, ents, HI.out, HTT.out]
        exact hown6
      have HB6 : Hid (Below w5.heap.size w5 ((w5.alloc (Obj.cells #[Value.string s, Value.int IntKind.i64 t] 28)).alloc (Obj.cells #[Value.string s, Value.int IntKind.i64 t] 28))) := ((Below.refl _ _).alloc (Nat.le_refl _) _).alloc (by simp) _
      have HA6 : Hid (Ab w6 p g f0 N (k + (j + 1)) I T) := by
        have h1 : Ab w5 p g f0 N (k + (j + 1)) I T := by
          refine ⟨off', ?_⟩
          have h := HA5.out
          rw [HM.out] at h
          rw [show f0 + ((k + (j + 1) : Nat) : Int) = f0 + ((k + j : Nat) : Int) + 1 by omega, show k + (j + 1) = k + j + 1 by omega]
          rw [show k + (j + 1) = k + j + 1 by omega] at h
          exact h
        refine (h1.later HB6.out).same (hg6.block p (by simp; omega) (by simp; omega)) (hg6.block g (by simp; omega) (by simp; omega))
      have HK6 : Hid (Kept3 w w6 p g q) := (HK5.out.trans (Kept3.of_below HB6.out)).trans (Kept3.of1 hg6)
      clear hown6 hg6
      go_wp2
      go_roundw
      case rel => exact ⟨j + 1, by omega, by go_num, by rw [Nat.add_assoc], HQ6.out, HA6.out, HK6.out⟩
      case measure => simp [intOf]; omega
    · obtain rfl : L = k + j := by omega
      go_wp2_with fail
      refine (exp_no p g off (N - (k + j)) (k + j) _ cut I T _ hAj (by omega) (fun h => HT'.out (by omega))).mono ?_
      rintro e w5 ⟨rfl, hb5⟩
      have HB : Hid (∀ o, Below wr.heap.size wr (w5.alloc o)) := fun o => hb5.alloc hb5.size o
      have HF : Hid (Ab wr p g f0 N (k + j) I T) := ⟨off, hAj⟩
      clear hb5 hAj
      go_wp2
      go_ret
      exact ⟨rfl, HQj.out.later (HB.out _), HF.out.later (HB.out _), HKj.out.trans (Kept3.of_below (HB.out _))⟩

end Go.Proofs.Qxb6623457a
