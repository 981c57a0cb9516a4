/-
  THE WALK of FnIsDigitsInsertOne (6), and the contract of its bound (18).
-/
import Derived.Test.Qxb6621640aDigits
namespace Go.Proofs.Qxb6621640a
open Go.RowKit
set_option linter.unusedSimpArgs false
set_option linter.unusedVariables false

theorem bytes18_yes (a : Option Addr) (n c : Nat) (i b : Int) (w : World) (hn : n ≤ 1048576) :
    Calls Try.prog 18 #[.slice a n c, .int .i64 i, .int .u8 b] w fun e w' => e = .returned (.bool true) ∧ w' = w := by
  have h1 : ¬ (1048576 : Int) < (n : Int) := by omega
  go_enter Try.func18, Try.ntmps18
  go_wp2
  go_ret
  exact ⟨rfl, rfl⟩

theorem bytes18_no (a : Option Addr) (n c : Nat) (i b : Int) (w : World) (hn : 1048576 < n) :
    Calls Try.prog 18 #[.slice a n c, .int .i64 i, .int .u8 b] w fun e w' => e = .returned (.bool false) ∧ w' = w := by
  have h1 : (1048576 : Int) < (n : Int) := by omega
  go_enter Try.func18, Try.ntmps18
  go_wp2
  go_ret
  exact ⟨rfl, rfl⟩

theorem ins_law (xs : List Int) (i : Nat) (c : Int) (hi : i ≤ xs.length) :
    digs (xs.take i ++ ([c] ++ xs.drop i)) = ((decide ((xs.length : Int) = 0) || digs xs) && dg c) := by
  have h1 : xs.all dg = ((xs.take i).all dg && (xs.drop i).all dg) := by
    rw [← List.all_append, List.take_append_drop]
  unfold digs
  rw [List.all_append, List.all_append, h1]
  cases xs with
  | nil => simp
  | cons x r => cases (List.take i (x :: r)).all dg <;> cases (List.drop i (x :: r)).all dg <;> cases h : dg c <;> simp [h] <;> omega

theorem digs_one (c : Int) : digs [c] = dg c := by simp [digs]

theorem ins_eval (xs : List Int) (n i : Nat) (c : Int) (hl : xs.length = n) (hi : i ≤ n) :
    digs (xs.take i ++ ([c] ++ xs.drop i)) = ((((n : Int) == 0) || digs xs) && digs [c]) := by
  rw [ins_law xs i c (by omega), digs_one, hl]
  congr 2

set_option maxHeartbeats 4000000 in
theorem ins_main (a : Option Addr) (n cap : Nat) (xs : List Int) (i : Nat) (c : Int) (w : World) (h : Rd w a n xs) (hnone : a = none → n = 0 ∧ cap = 0) (hn : n ≤ 65536) (hi : i ≤ n)
    (hcs : (48 ≤ c ∧ c ≤ 57 ∧ digs [c] = true) ∨ (c < 48 ∧ digs [c] = false) ∨ (57 < c ∧ 48 ≤ c ∧ digs [c] = false)) (hns : ((n : Int) == 0) = true ∨ (((n : Int) == 0) = false ∧ digs xs = true) ∨ (((n : Int) == 0) = false ∧ digs xs = false)) :
    Calls Try.prog 6 #[.slice a n cap, .int .i64 (i : Int), .int .u8 c] w fun e w' => e = .returned (.bool true) ∧ Below w.heap.size w w' := by
  obtain ⟨i0, hi0, hz0, hz1, hz2⟩ := info_parts info5
  have h1 : ¬ (65536 : Int) < (n : Int) := by omega
  have h2 : ¬ (i : Int) < 0 := by omega
  have h3 : ¬ (n : Int) < (i : Int) := by omega
  rcases hns with hn0 | ⟨hn0, hdx⟩ | ⟨hn0, hdx⟩ <;> rcases hcs with ⟨h48, h57, hd⟩ | ⟨h48, hd⟩ | ⟨h57, h48, hd⟩
  all_goals
    go_enter Try.func6, Try.ntmps6
    go_wp2_with fail
    refine (bytes18_yes _ _ _ _ _ _ (by omega)).mono ?_
    rintro e w' ⟨rfl, rfl⟩
    go_wp2_with fail
    refine (clone_any _ _ _ xs _ h hnone (by omega)).mono ?_
    rintro e w1 ⟨a1, c1, rfl, hown, hb⟩
    have hc1 := own_cap hown
    have HN1 : Hid (a1 = none → i = 0 ∧ c1 = 0) := fun e => by have := own_none hown e; omega
    have HN2 : Hid ((if c1 = i then a1 else Option.map (fun x => x.add i) a1) = none → n - i = 0 ∧ c1 - i = 0) := fun e => by
      by_cases hci : c1 = i
      · omega
      · rw [if_neg hci] at e
        have := own_none hown (by simpa using e)
        omega
    have HNE : Hid (∀ b o s, a1 = some ⟨b, o, s⟩ → some b ≠ some w1.heap.size) := fun b o s e h => by
      have := (hown.lt b (by rw [e]; rfl)).2
      simp at h
      omega
    have HR1 : Hid (Rd w1 a1 n xs) := Rd.of_own hown
    have HB : Hid (Below w'.heap.size w' w1) := hb
    have hsz : w'.heap.size ≤ w1.heap.size := hb.size
    have HXL : Hid (xs.length = n) := h.len
    obtain ⟨X1, hX1⟩ : ∃ X, X = (xs.take i).map (Value.int .u8) := ⟨_, rfl⟩
    obtain ⟨X2, hX2⟩ : ∃ X, X = (xs.drop i).map (Value.int .u8) := ⟨_, rfl⟩
    have HX1 : Hid (X1 = (xs.take i).map (Value.int .u8)) := hX1
    have HX2 : Hid (X2 = (xs.drop i).map (Value.int .u8)) := hX2
    have HL1 : Hid (X1.length = i * 1) := by show _ = _; rw [hX1]; simp; rw [HXL.out]; omega
    have HL2 : Hid (X2.length = (n - i) * 1) := by show _ = _; rw [hX2]; simp; rw [HXL.out]
    clear hown hb h hnone hX1 hX2
    go_wp2_with (at_make; go_must (refine wpList_make_own _ rfl _ _ 22 rfl w'.heap.size 5 i0 (.int .u8 0) 1 Try.underlying22 hi0 hz0 hz1 .i64 .i64 _ (n+1) rfl rfl (by omega) (by rw [hz2]; omega) (by unfold maxLen; omega) (HB.out.size) ?_))
    intro w2 hown2 hgrow2
    have HR2 : Hid (Rd w2 a1 n xs) := HR1.out.grown hgrow2 (fun _ _ _ _ h => by cases h)
    have HB2 : Hid (Below w'.heap.size w' w2) := HB.out.grown hgrow2 hsz (fun k hk => by cases hk)
    have HO2 : Hid (w2.ownsRow w'.heap.size 5 1 (Value.slice (some { block := w1.heap.size, off := 0 }) 0 (n + 1)) 0 []) := hown2
    have hsz2 : w1.heap.size < w2.heap.size := (hown2.lt w1.heap.size rfl).2
    clear hown2 hgrow2
    go_wp2_with (at_builtin; go_must (refine wpList_append_fits_any _ rfl (.tmp 33) (.tmp 36) 22 rfl w'.heap.size 5 i0 1 Try.underlying22 hi0 hz1 w1.heap.size 0 (n+1) [] rfl HO2.out a1 i c1 X1 rfl HL1.out HN1.out (by rw [HX1.out]; exact HR2.out.takeCells hi) (by rw [HX1.out]; exact ints_oneCell _ _) (by omega) ?_))
    intro w3 hown3 hgrow3
    have HR3 : Hid (Rd w3 a1 n xs) := HR2.out.grown hgrow3 HNE.out
    have HB3 : Hid (Below w'.heap.size w' w3) := HB2.out.grown hgrow3 (by omega) (fun k hk => by simp at hk; omega)
    have HO3 : Hid (w3.ownsRow w'.heap.size 5 1 (Value.slice (some { block := w1.heap.size, off := 0 }) i (n + 1)) i X1) := hown3
    have hsz3 : w2.heap.size ≤ w3.heap.size := hgrow3.size
    clear hown3 hgrow3
    go_wp2_with (at_builtin; go_must (refine wpList_append_fits _ rfl (.tmp 38) (.tmp 40) 22 rfl w'.heap.size 5 i0 1 Try.underlying22 hi0 hz1 w1.heap.size i (n+1) X1 rfl (HO3.out.alloc _) ⟨w3.heap.size, 0, none⟩ 1 1 [.int .u8 c] rfl rfl (cell_one_new _ _ _) (by intro u hu; simp at hu; subst hu; rfl) (by omega) ?_))
    intro w4 hown4 hgrow4
    have HR4 : Hid (Rd w4 a1 n xs) := (HR3.out.later ((Below.refl _ _).alloc (Nat.le_refl _) _)).grown hgrow4 HNE.out
    have HB4 : Hid (Below w'.heap.size w' w4) := (HB3.out.alloc (by omega) _).grown hgrow4 (by simp; omega) (fun k hk => by simp at hk; omega)
    have HO4 : Hid (w4.ownsRow w'.heap.size 5 1 (Value.slice (some { block := w1.heap.size, off := 0 }) (i + 1) (n + 1)) (i + 1) (X1 ++ [Value.int IntKind.u8 c])) := hown4
    have hsz4 : w3.heap.size ≤ w4.heap.size := by have := hgrow4.size; simp at this; omega
    clear hown4 hgrow4
    go_wp2_with (at_builtin; go_must (refine wpList_append_fits_any _ rfl (.tmp 42) (.tmp 45) 22 rfl w'.heap.size 5 i0 1 Try.underlying22 hi0 hz1 w1.heap.size (i + 1) (n+1) _ rfl HO4.out _ (n - i) (c1 - i) X2 rfl HL2.out HN2.out (by rw [HX2.out]; exact HR4.out.dropCells hc1) (by rw [HX2.out]; exact ints_oneCell _ _) (by omega) ?_; intro w5 hown5 hgrow5; generalize (if c1 = i then a1 else Option.map (fun x => x.add i) a1) = y))
    obtain ⟨S, hS⟩ : ∃ S, S = xs.take i ++ ([c] ++ xs.drop i) := ⟨_, rfl⟩
    have HS : Hid (S = xs.take i ++ ([c] ++ xs.drop i)) := hS
    have HR5 : Hid (Rd w5 a1 n xs) := HR4.out.grown hgrow5 HNE.out
    have HB5 : Hid (Below w'.heap.size w' w5) := HB4.out.grown hgrow5 (by omega) (fun k hk => by simp at hk; omega)
    have HRS : Hid (Rd w5 (some ⟨w1.heap.size, 0, none⟩) (i + 1 + (n - i)) S) := by
      have e : (X1 ++ [Value.int IntKind.u8 c] ++ X2) = S.map (Value.int .u8) := by rw [HX1.out, HX2.out, hS]; simp
      have h := hown5
      rw [e] at h
      exact Rd.of_own h
    have hsz5 : w4.heap.size ≤ w5.heap.size := hgrow5.size
    clear hown5 hgrow5 hS
    have HBo : Hid (Below w5.heap.size w5 (w5.alloc (Obj.cells #[Value.int IntKind.u8 c] 5))) := (Below.refl _ _).alloc (Nat.le_refl _) _
    have HR6 : Hid (Rd (w5.alloc (Obj.cells #[Value.int IntKind.u8 c] 5)) (some ⟨w5.heap.size, 0, none⟩) 1 [c]) := by
      refine ⟨rfl, fun _ => ⟨w5.heap.size, 0, rfl, fun j hj => ?_⟩⟩
      obtain rfl : j = 0 := by omega
      simp
    have HBE : Hid (Below w'.heap.size w' (w5.alloc (Obj.cells #[Value.int IntKind.u8 c] 5))) := HB5.out.alloc (by omega) _
    have HRx : Hid (Rd (w5.alloc (Obj.cells #[Value.int IntKind.u8 c] 5)) a1 n xs) := HR5.out.later HBo.out
    have HRy : Hid (Rd (w5.alloc (Obj.cells #[Value.int IntKind.u8 c] 5)) (some ⟨w1.heap.size, 0, none⟩) (i + 1 + (n - i)) S) := HRS.out.later HBo.out
    refine (zisd_any _ _ _ [c] _ (by exact HR6.out) (by omega)).mono ?_
    rintro e w6 ⟨rfl, rfl⟩
    go_wp2_with fail
  · have hf : digs S = digs [c] := by rw [HS.out, ins_eval xs n i c HXL.out hi, hn0]; simp
    refine (zisd_any _ _ _ [c] _ (by exact HR6.out) (by omega)).mono ?_
    rintro e w8 ⟨rfl, rfl⟩
    go_wp2_with fail
    refine (zisd_any _ _ _ S _ (by exact HRy.out) (by omega)).mono ?_
    rintro e w9 ⟨rfl, rfl⟩
    go_wp2
    go_ret
    exact ⟨rfl, HBE.out⟩
  · have hf : digs S = digs [c] := by rw [HS.out, ins_eval xs n i c HXL.out hi, hn0]; simp
    refine (zisd_any _ _ _ [c] _ (by exact HR6.out) (by omega)).mono ?_
    rintro e w8 ⟨rfl, rfl⟩
    go_wp2_with fail
    refine (zisd_any _ _ _ S _ (by exact HRy.out) (by omega)).mono ?_
    rintro e w9 ⟨rfl, rfl⟩
    go_wp2
    go_ret
    exact ⟨rfl, HBE.out⟩
  · have hf : digs S = digs [c] := by rw [HS.out, ins_eval xs n i c HXL.out hi, hn0]; simp
    refine (zisd_any _ _ _ [c] _ (by exact HR6.out) (by omega)).mono ?_
    rintro e w8 ⟨rfl, rfl⟩
    go_wp2_with fail
    refine (zisd_any _ _ _ S _ (by exact HRy.out) (by omega)).mono ?_
    rintro e w9 ⟨rfl, rfl⟩
    go_wp2
    go_ret
    exact ⟨rfl, HBE.out⟩
  · have hf : digs S = digs [c] := by rw [HS.out, ins_eval xs n i c HXL.out hi, hn0, hdx]; simp
    refine (zisd_any _ _ _ xs _ (by exact HRx.out) (by omega)).mono ?_
    rintro e w7 ⟨rfl, rfl⟩
    go_wp2_with fail
    refine (zisd_any _ _ _ [c] _ (by exact HR6.out) (by omega)).mono ?_
    rintro e w8 ⟨rfl, rfl⟩
    go_wp2_with fail
    refine (zisd_any _ _ _ S _ (by exact HRy.out) (by omega)).mono ?_
    rintro e w9 ⟨rfl, rfl⟩
    go_wp2
    go_ret
    exact ⟨rfl, HBE.out⟩
  · have hf : digs S = digs [c] := by rw [HS.out, ins_eval xs n i c HXL.out hi, hn0, hdx]; simp
    refine (zisd_any _ _ _ xs _ (by exact HRx.out) (by omega)).mono ?_
    rintro e w7 ⟨rfl, rfl⟩
    go_wp2_with fail
    refine (zisd_any _ _ _ [c] _ (by exact HR6.out) (by omega)).mono ?_
    rintro e w8 ⟨rfl, rfl⟩
    go_wp2_with fail
    refine (zisd_any _ _ _ S _ (by exact HRy.out) (by omega)).mono ?_
    rintro e w9 ⟨rfl, rfl⟩
    go_wp2
    go_ret
    exact ⟨rfl, HBE.out⟩
  · have hf : digs S = digs [c] := by rw [HS.out, ins_eval xs n i c HXL.out hi, hn0, hdx]; simp
    refine (zisd_any _ _ _ xs _ (by exact HRx.out) (by omega)).mono ?_
    rintro e w7 ⟨rfl, rfl⟩
    go_wp2_with fail
    refine (zisd_any _ _ _ [c] _ (by exact HR6.out) (by omega)).mono ?_
    rintro e w8 ⟨rfl, rfl⟩
    go_wp2_with fail
    refine (zisd_any _ _ _ S _ (by exact HRy.out) (by omega)).mono ?_
    rintro e w9 ⟨rfl, rfl⟩
    go_wp2
    go_ret
    exact ⟨rfl, HBE.out⟩
  · have hf : digs S = false := by rw [HS.out, ins_eval xs n i c HXL.out hi, hn0, hdx]; simp
    refine (zisd_any _ _ _ xs _ (by exact HRx.out) (by omega)).mono ?_
    rintro e w7 ⟨rfl, rfl⟩
    go_wp2_with fail
    refine (zisd_any _ _ _ S _ (by exact HRy.out) (by omega)).mono ?_
    rintro e w9 ⟨rfl, rfl⟩
    go_wp2
    go_ret
    exact ⟨rfl, HBE.out⟩
  · have hf : digs S = false := by rw [HS.out, ins_eval xs n i c HXL.out hi, hn0, hdx]; simp
    refine (zisd_any _ _ _ xs _ (by exact HRx.out) (by omega)).mono ?_
    rintro e w7 ⟨rfl, rfl⟩
    go_wp2_with fail
    refine (zisd_any _ _ _ S _ (by exact HRy.out) (by omega)).mono ?_
    rintro e w9 ⟨rfl, rfl⟩
    go_wp2
    go_ret
    exact ⟨rfl, HBE.out⟩
  · have hf : digs S = false := by rw [HS.out, ins_eval xs n i c HXL.out hi, hn0, hdx]; simp
    refine (zisd_any _ _ _ xs _ (by exact HRx.out) (by omega)).mono ?_
    rintro e w7 ⟨rfl, rfl⟩
    go_wp2_with fail
    refine (zisd_any _ _ _ S _ (by exact HRy.out) (by omega)).mono ?_
    rintro e w9 ⟨rfl, rfl⟩
    go_wp2
    go_ret
    exact ⟨rfl, HBE.out⟩

theorem ins_big (a : Option Addr) (n cap : Nat) (i c : Int) (w : World) (hn : 1048576 < n) :
    Calls Try.prog 6 #[.slice a n cap, .int .i64 i, .int .u8 c] w fun e w' => e = .returned (.bool true) ∧ Below w.heap.size w w' := by
  go_enter Try.func6, Try.ntmps6
  go_wp2_with fail
  refine (bytes18_no _ _ _ _ _ _ hn).mono ?_
  rintro e w' ⟨rfl, rfl⟩
  go_wp2
  go_ret
  exact ⟨rfl, Below.refl _ _⟩

theorem ins_mid (a : Option Addr) (n cap : Nat) (i c : Int) (w : World) (hn : n ≤ 1048576) (h : 65536 < n) :
    Calls Try.prog 6 #[.slice a n cap, .int .i64 i, .int .u8 c] w fun e w' => e = .returned (.bool true) ∧ Below w.heap.size w w' := by
  have h1 : (65536 : Int) < (n : Int) := by omega
  go_enter Try.func6, Try.ntmps6
  go_wp2_with fail
  refine (bytes18_yes _ _ _ _ _ _ hn).mono ?_
  rintro e w' ⟨rfl, rfl⟩
  go_wp2
  go_ret
  exact ⟨rfl, Below.refl _ _⟩

theorem ins_neg (a : Option Addr) (n cap : Nat) (i c : Int) (w : World) (hn : n ≤ 65536) (h : i < 0) :
    Calls Try.prog 6 #[.slice a n cap, .int .i64 i, .int .u8 c] w fun e w' => e = .returned (.bool true) ∧ Below w.heap.size w w' := by
  have h1 : ¬ (65536 : Int) < (n : Int) := by omega
  go_enter Try.func6, Try.ntmps6
  go_wp2_with fail
  refine (bytes18_yes _ _ _ _ _ _ (by omega)).mono ?_
  rintro e w' ⟨rfl, rfl⟩
  go_wp2
  go_ret
  exact ⟨rfl, Below.refl _ _⟩

theorem ins_beyond (a : Option Addr) (n cap : Nat) (i c : Int) (w : World) (hn : n ≤ 65536) (h : 0 ≤ i) (h' : (n : Int) < i) :
    Calls Try.prog 6 #[.slice a n cap, .int .i64 i, .int .u8 c] w fun e w' => e = .returned (.bool true) ∧ Below w.heap.size w w' := by
  have h1 : ¬ (65536 : Int) < (n : Int) := by omega
  go_enter Try.func6, Try.ntmps6
  go_wp2_with fail
  refine (bytes18_yes _ _ _ _ _ _ (by omega)).mono ?_
  rintro e w' ⟨rfl, rfl⟩
  go_wp2
  go_ret
  exact ⟨rfl, Below.refl _ _⟩

theorem ins_any (a : Option Addr) (n cap : Nat) (xs : List Int) (i c : Int) (w : World) (h : Rd w a n xs) (hnone : a = none → n = 0 ∧ cap = 0) :
    Calls Try.prog 6 #[.slice a n cap, .int .i64 i, .int .u8 c] w fun e w' => e = .returned (.bool true) ∧ Below w.heap.size w w' := by
  by_cases h1 : 1048576 < n
  · exact ins_big a n cap i c w h1
  by_cases h2 : 65536 < n
  · exact ins_mid a n cap i c w (by omega) h2
  by_cases h3 : i < 0
  · exact ins_neg a n cap i c w (by omega) h3
  by_cases h4 : (n : Int) < i
  · exact ins_beyond a n cap i c w (by omega) (by omega) h4
  obtain ⟨j, rfl⟩ := Int.eq_ofNat_of_zero_le (show 0 ≤ i by omega)
  refine ins_main a n cap xs j c w h hnone (by omega) (by omega) ?_ ?_
  · rw [digs_one]
    by_cases h5 : 48 ≤ c
    · by_cases h6 : c ≤ 57
      · exact .inl ⟨h5, h6, by simp [dg, h5, h6]⟩
      · exact .inr (.inr ⟨by omega, h5, by simp [dg, h6]⟩)
    · exact .inr (.inl ⟨by omega, by simp [dg, h5]⟩)
  · cases hn0 : ((n : Int) == 0)
    · cases hdx : digs xs
      · exact .inr (.inr ⟨rfl, rfl⟩)
      · exact .inr (.inl ⟨rfl, rfl⟩)
    · exact .inl rfl

end Go.Proofs.Qxb6621640a
