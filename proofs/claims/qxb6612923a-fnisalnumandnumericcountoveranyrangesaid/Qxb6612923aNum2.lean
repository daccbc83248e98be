/-
  strings.IndexFunc, strings.ContainsFunc at 'no digit', numeric, isAlnum, overlap.
-/
import Derived.Test.Qxb6612923aNum
namespace Go.Proofs.Qxb6612923a
open Go.RowKit

theorem indexFuncTop_any (s : ByteArray) (w : World) :
    Calls Try.prog 15 #[.string s, .func (.func 13) #[] #[]] w fun e w' => ∃ r : Int, e = .returned (.int .i64 r) ∧ decide (0 ≤ r) = !allDig s.data.toList ∧ Below w.heap.size w w' := by
  go_enter Try.func15, Try.ntmps15
  go_wp2_with fail
  refine (indexFunc_any s _).mono ?_
  rintro e w' ⟨r, rfl, hr, hb⟩
  have HR : Hid (decide (0 ≤ r) = !allDig s.data.toList) := hr
  clear hr
  go_wp2
  go_ret
  exact ⟨r, rfl, HR.out, hb⟩
theorem contains_any (s : ByteArray) (w : World) :
    Calls Try.prog 12 #[.string s, .func (.func 13) #[] #[]] w fun e w' => e = .returned (.bool (!allDig s.data.toList)) ∧ Below w.heap.size w w' := by
  go_enter Try.func12, Try.ntmps12
  go_wp2_with fail
  refine (indexFuncTop_any s _).mono ?_
  rintro e w' ⟨r, rfl, hr, hb⟩
  have HR : Hid (decide (0 ≤ r) = !allDig s.data.toList) := hr
  clear hr
  go_wp2
  go_ret
  exact ⟨ret_bool HR.out, hb⟩

/-- numeric, as a plain function of the bytes. -/
def numB (l : List UInt8) : Bool := !l.isEmpty && allDig l

theorem numB_nil : numB [] = false := rfl
theorem numB_some {l : List UInt8} (h : l ≠ []) : numB l = allDig l := by
  cases l with
  | nil => exact absurd rfl h
  | cons c l => rfl

theorem numeric_any (s : ByteArray) (w : World) :
    Calls Try.prog 10 #[.string s] w fun e w' => e = .returned (.bool (numB s.data.toList)) ∧ Below w.heap.size w w' := by
  have hl := ByteArray.toList_eq s
  by_cases h : s.toList = []
  · have HN : Hid (numB s.data.toList = false) := by rw [← hl, h]; rfl
    clear hl
    go_enter Try.func10, Try.ntmps10
    go_wp2_with fail
    go_ret
    exact ⟨ret_bool HN.out.symm, Below.refl _ _⟩
  · have HN : Hid (numB s.data.toList = allDig s.data.toList) := by
      show _ = _
      rw [← hl]; exact numB_some h
    clear hl
    go_enter Try.func10, Try.ntmps10
    go_wp2_with fail
    refine (contains_any s _).mono ?_
    rintro e w' ⟨rfl, hb⟩
    go_wp2
    go_ret
    exact ⟨ret_bool (by rw [HN.out]; simp [h]), hb⟩
theorem znumeric_any (s : ByteArray) (w : World) :
    Calls Try.prog 7 #[.string s] w fun e w' => e = .returned (.bool (numB s.data.toList)) ∧ Below w.heap.size w w' := by
  go_enter Try.func7, Try.ntmps7
  go_wp2_with fail
  refine (numeric_any s _).mono ?_
  rintro e w' ⟨rfl, hb⟩
  go_wp2
  go_ret
  exact ⟨rfl, hb⟩
/-- Is r an ASCII letter or digit? -/
def alnB (r : Int) : Bool := digB r || decide (97 ≤ r ∧ r ≤ 122) || decide (65 ≤ r ∧ r ≤ 90)

set_option maxHeartbeats 400000 in
theorem alnum_any (r : Int) (w : World) : Calls Try.prog 11 #[.int .i32 r] w fun e w' => e = .returned (.bool (alnB r)) ∧ w' = w := by
  have hcall := fun W => digit_any r W
  cases hd : digB r
  · rw [hd] at hcall
    have HC : Hid (∀ W, Calls Try.prog 14 #[.int .i32 r] W fun e w' => e = .returned (.bool false) ∧ w' = W) := hcall
    have HD : Hid (digB r = false) := hd
    clear hcall hd
    by_cases h1 : 97 ≤ r
    · have h1' : ¬ r ≤ 90 := by omega
      have h1'' : 65 ≤ r := by omega
      by_cases h2 : r ≤ 122
      · go_enter Try.func11, Try.ntmps11
        go_wp2_with (go_at_call 14; refine (HC.out _).mono ?_; rintro e w' ⟨rfl, rfl⟩)
        go_ret
        exact ⟨ret_bool (by unfold alnB; rw [HD.out, Bool.eq_iff_iff]; simp; omega), rfl⟩
      · go_enter Try.func11, Try.ntmps11
        go_wp2_with (go_at_call 14; refine (HC.out _).mono ?_; rintro e w' ⟨rfl, rfl⟩)
        go_ret
        exact ⟨ret_bool (by unfold alnB; rw [HD.out, Bool.eq_iff_iff]; simp; omega), rfl⟩
    · by_cases h2 : 65 ≤ r
      · go_enter Try.func11, Try.ntmps11
        go_wp2_with (go_at_call 14; refine (HC.out _).mono ?_; rintro e w' ⟨rfl, rfl⟩)
        go_ret
        exact ⟨ret_bool (by unfold alnB; rw [HD.out, Bool.eq_iff_iff]; simp; omega), rfl⟩
      · go_enter Try.func11, Try.ntmps11
        go_wp2_with (go_at_call 14; refine (HC.out _).mono ?_; rintro e w' ⟨rfl, rfl⟩)
        go_ret
        exact ⟨ret_bool (by unfold alnB; rw [HD.out, Bool.eq_iff_iff]; simp; omega), rfl⟩
  · rw [hd] at hcall
    have HC : Hid (∀ W, Calls Try.prog 14 #[.int .i32 r] W fun e w' => e = .returned (.bool true) ∧ w' = W) := hcall
    have HD : Hid (digB r = true) := hd
    clear hcall hd
    go_enter Try.func11, Try.ntmps11
    go_wp2_with (go_at_call 14; refine (HC.out _).mono ?_; rintro e w' ⟨rfl, rfl⟩)
    go_ret
    exact ⟨ret_bool (by unfold alnB; rw [HD.out]; simp), rfl⟩
theorem zalnum_any (r : Int) (w : World) : Calls Try.prog 8 #[.int .i32 r] w fun e w' => e = .returned (.bool (alnB r)) ∧ w' = w := by
  go_enter Try.func8, Try.ntmps8
  go_wp2_with (go_at_call 11; refine (alnum_any r _).mono ?_; rintro e w' ⟨rfl, rfl⟩)
  go_ret
  exact ⟨rfl, rfl⟩

/-- How many integers lie both in [lo, hi] and in [a, b]. -/
def over (lo hi a b : Int) : Int := if (if lo < a then a else lo) > (if hi > b then b else hi) then 0 else (if hi > b then b else hi) - (if lo < a then a else lo) + 1

set_option maxHeartbeats 400000 in
theorem overlap_any (lo hi a b : Int) (h1 : -2147483648 ≤ lo) (h2 : lo ≤ 2147483647) (h3 : -2147483648 ≤ hi) (h4 : hi ≤ 2147483647) (h5 : 0 ≤ a) (h6 : a ≤ 1000) (h7 : 0 ≤ b) (h8 : b ≤ 1000) (w : World) :
    Calls Try.prog 9 #[.int .i64 lo, .int .i64 hi, .int .i64 a, .int .i64 b] w fun e w' => e = .returned (.int .i64 (over lo hi a b)) ∧ w' = w := by
  obtain ⟨L, hL⟩ : ∃ L, (if lo < a then a else lo) = L := ⟨_, rfl⟩
  obtain ⟨M, hM⟩ : ∃ M, (if hi > b then b else hi) = M := ⟨_, rfl⟩
  unfold over
  rw [hL, hM]
  by_cases c1 : lo < a <;> by_cases c2 : hi > b
  all_goals
    simp only [c1, c2, if_true, if_false] at hL hM
    subst hL hM
    by_cases c3 : (if lo < a then a else lo) > (if hi > b then b else hi)
    all_goals
      simp only [c1, c2, if_true, if_false] at c3
      simp only [c3, if_true, if_false]
      go_enter Try.func9, Try.ntmps9
      go_wp2
      go_ret
      exact ⟨rfl, rfl⟩
end Go.Proofs.Qxb6612923a
