/-
  THE LAW's WALK WHERE THE CUT LIES INSIDE: FnNumericSplitsAtAnyCutAndTakesDecimals; and the law whole.
-/
import Derived.Test.Qxb6612923aSplits
namespace Go.Proofs.Qxb6612923a
open Go.RowKit

set_option maxHeartbeats 2000000 in
/-- A cut inside; n is negative. -/
theorem in_neg (s : ByteArray) (k : Nat) (n : Int) (hs : s.size ≤ 1048576) (h0 : -9223372036854775808 ≤ n) (hn : n < 0) (hk0 : 0 < k) (hk1 : k < s.size) (A B : Bool) (hA : numOf (s.extract 0 k) = A) (hB : numOf (s.extract k s.size) = B) (w : World) :
    Calls Try.prog 3 #[.string s, .int .i64 (k : Int), .int .i64 n] w fun e w' => e = .returned (.bool true) ∧ Below w.heap.size w w' := by
  have hC := numOf_cut s k hk0 hk1
  rw [hA, hB] at hC
  have CA : Hid (∀ W, Calls Try.prog 7 #[.string (s.extract 0 k)] W fun e w' => e = .returned (.bool A) ∧ Below W.heap.size W w') := fun W => hA ▸ znum _ W
  have CB : Hid (∀ W, Calls Try.prog 7 #[.string (s.extract k s.size)] W fun e w' => e = .returned (.bool B) ∧ Below W.heap.size W w') := fun W => hB ▸ znum _ W
  have CC : Hid (∀ W, Calls Try.prog 7 #[.string s] W fun e w' => e = .returned (.bool (A && B)) ∧ Below W.heap.size W w') := fun W => hC ▸ znum s W
  clear hA hB hC
  have HD : Hid (∀ W, Calls Try.prog 6 #[.int .i64 n] W fun e w' => ∃ l : List UInt8, e = .returned (.string ⟨l.toArray⟩) ∧ numOf ⟨l.toArray⟩ = false ∧ numOf (s ++ ⟨l.toArray⟩) = false ∧ (∀ W', (Op.stringOp .add s ⟨l.toArray⟩).run Try.prog W' = .ok (.string (s ++ ⟨l.toArray⟩)) W') ∧ Below W.heap.size W w') :=
    fun W => dec_any s hs n h0 (by omega) false false (by simp; omega) (by simp) W
  have hk0' : (0 : Int) < (k : Int) := by omega
  have hk1' : (k : Int) < (s.size : Int) := by omega
  cases A
  case' true => cases B
  all_goals simp only [Bool.and_true, Bool.and_false, Bool.false_and] at CC
  all_goals
    go_enter Try.func3, Try.ntmps3
    go_wp2_with fail
    refine (fits_any s k n _ hs).mono ?_
    rintro e w' ⟨rfl, rfl⟩
    go_wp2_with fail
    refine (HD.out _).mono ?_
    rintro e w1 ⟨l, rfl, e1, e2, hadd, hb1⟩
    go_wp2_with fail
    refine (znum _ _).mono ?_
    rintro e w2 ⟨rfl, hb2⟩
    go_wp2_with fail
    refine (znum _ _).mono ?_
    rintro e w3 ⟨rfl, hb3⟩
    clear HD hadd
    have hb : Below w'.heap.size w' w3 := hb1.trans ((hb2.trans (hb3.mono hb2.size)).mono hb1.size)
    clear hb1 hb2 hb3
    go_wp2_with fail
    first | go_region_with (first | (go_at_call_of 7 (Value.string s); refine (CC.out _).mono ?_; rintro e w4 ⟨rfl, hb4⟩; have hb : Below w'.heap.size w' w4 := (by first | exact hb.trans (hb4.mono hb.size) | exact hb.drew.trans (hb4.mono hb.size)); clear hb4) | (go_at_call_of 7 (Value.string (s.extract 0 k)); refine (CA.out _).mono ?_; rintro e w4 ⟨rfl, hb4⟩; have hb : Below w'.heap.size w' w4 := (by first | exact hb.trans (hb4.mono hb.size) | exact hb.drew.trans (hb4.mono hb.size)); clear hb4) | (go_at_call_of 7 (Value.string (s.extract k s.size)); refine (CB.out _).mono ?_; rintro e w4 ⟨rfl, hb4⟩; have hb : Below w'.heap.size w' w4 := (by first | exact hb.trans (hb4.mono hb.size) | exact hb.drew.trans (hb4.mono hb.size)); clear hb4)) | fail
    all_goals go_wp2
    all_goals go_ret
    all_goals exact ⟨rfl, hb⟩

set_option maxHeartbeats 2000000 in
/-- A cut inside; n is not negative. -/
theorem in_pos (s : ByteArray) (k : Nat) (n : Int) (hs : s.size ≤ 1048576) (h0 : 0 ≤ n) (h1 : n ≤ 9223372036854775807) (hk0 : 0 < k) (hk1 : k < s.size) (A B : Bool) (hA : numOf (s.extract 0 k) = A) (hB : numOf (s.extract k s.size) = B) (w : World) :
    Calls Try.prog 3 #[.string s, .int .i64 (k : Int), .int .i64 n] w fun e w' => e = .returned (.bool true) ∧ Below w.heap.size w w' := by
  have hC := numOf_cut s k hk0 hk1
  rw [hA, hB] at hC
  have CA : Hid (∀ W, Calls Try.prog 7 #[.string (s.extract 0 k)] W fun e w' => e = .returned (.bool A) ∧ Below W.heap.size W w') := fun W => hA ▸ znum _ W
  have CB : Hid (∀ W, Calls Try.prog 7 #[.string (s.extract k s.size)] W fun e w' => e = .returned (.bool B) ∧ Below W.heap.size W w') := fun W => hB ▸ znum _ W
  have CC : Hid (∀ W, Calls Try.prog 7 #[.string s] W fun e w' => e = .returned (.bool (A && B)) ∧ Below W.heap.size W w') := fun W => hC ▸ znum s W
  have hE : ¬ s.toList = [] := by
    intro h
    have h1 := congrArg List.length (data_nil h)
    simp at h1
    have h2 : s.size = 0 := by rw [← ByteArray.size_data, h1]; rfl
    omega
  have hC' : (allDig s.data.toList && true) = (A && B) := by rw [← numOf_some hE, hC]; simp
  have hE2 : s.toList.isEmpty = false := by simpa using hE
  clear hA hB hC
  have HD : Hid (∀ W, Calls Try.prog 6 #[.int .i64 n] W fun e w' => ∃ l : List UInt8, e = .returned (.string ⟨l.toArray⟩) ∧ numOf ⟨l.toArray⟩ = true ∧ numOf (s ++ ⟨l.toArray⟩) = (A && B) ∧ (∀ W', (Op.stringOp .add s ⟨l.toArray⟩).run Try.prog W' = .ok (.string (s ++ ⟨l.toArray⟩)) W') ∧ Below W.heap.size W w') :=
    fun W => dec_any s hs n (by omega) h1 true (A && B) (by simp; omega) hC' W
  clear hC'
  have hk0' : (0 : Int) < (k : Int) := by omega
  have hk1' : (k : Int) < (s.size : Int) := by omega
  cases A
  case' true => cases B
  all_goals simp only [Bool.and_true, Bool.and_false, Bool.false_and] at CC HD
  all_goals
    go_enter Try.func3, Try.ntmps3
    go_wp2_with fail
    refine (fits_any s k n _ hs).mono ?_
    rintro e w' ⟨rfl, rfl⟩
    go_wp2_with fail
    refine (HD.out _).mono ?_
    rintro e w1 ⟨l, rfl, e1, e2, hadd, hb1⟩
    go_wp2_with fail
    refine (znum _ _).mono ?_
    rintro e w2 ⟨rfl, hb2⟩
    go_wp2_with fail
    refine (znum _ _).mono ?_
    rintro e w3 ⟨rfl, hb3⟩
    go_wp2_with fail
    refine (CC.out _).mono ?_
    rintro e w3' ⟨rfl, hb3'⟩
    clear HD hadd
    have hb : Below w'.heap.size w' w3' := hb1.trans ((hb2.trans ((hb3.trans (hb3'.mono hb3.size)).mono hb2.size)).mono hb1.size)
    clear hb1 hb2 hb3 hb3'
    go_wp2_with fail
    first | go_region_with (first | (go_at_call_of 7 (Value.string s); refine (CC.out _).mono ?_; rintro e w4 ⟨rfl, hb4⟩; have hb : Below w'.heap.size w' w4 := (by first | exact hb.trans (hb4.mono hb.size) | exact hb.drew.trans (hb4.mono hb.size)); clear hb4) | (go_at_call_of 7 (Value.string (s.extract 0 k)); refine (CA.out _).mono ?_; rintro e w4 ⟨rfl, hb4⟩; have hb : Below w'.heap.size w' w4 := (by first | exact hb.trans (hb4.mono hb.size) | exact hb.drew.trans (hb4.mono hb.size)); clear hb4) | (go_at_call_of 7 (Value.string (s.extract k s.size)); refine (CB.out _).mono ?_; rintro e w4 ⟨rfl, hb4⟩; have hb : Below w'.heap.size w' w4 := (by first | exact hb.trans (hb4.mono hb.size) | exact hb.drew.trans (hb4.mono hb.size)); clear hb4)) | fail
    all_goals go_wp2
    all_goals go_ret
    all_goals exact ⟨rfl, hb⟩

/-- THE LAW, whole. -/
theorem law_any (s : ByteArray) (i n : Int) (hm : s.size ≤ maxLen) (h0 : -9223372036854775808 ≤ n) (h1 : n ≤ 9223372036854775807) (w : World) :
    Calls Try.prog 3 #[.string s, .int .i64 i, .int .i64 n] w fun e w' => e = .returned (.bool true) ∧ Below w.heap.size w w' := by
  by_cases hs : s.size ≤ 1048576
  · by_cases hin : 0 < i ∧ i < (s.size : Int)
    · obtain ⟨k, rfl⟩ : ∃ k : Nat, i = (k : Int) := ⟨i.toNat, by omega⟩
      by_cases hn : n < 0
      · exact in_neg s k n hs h0 hn (by omega) (by omega) _ _ rfl rfl w
      · exact in_pos s k n hs (by omega) h1 (by omega) (by omega) _ _ rfl rfl w
    · have hi : i ≤ 0 ∨ (s.size : Int) ≤ i := by omega
      by_cases hn : n < 0
      · exact out_neg s i n hs h0 hn hi w
      · by_cases hE : s.toList = []
        · exact out_empty s i n hs (by omega) h1 hE hi w
        · exact out_some s i n hs (by omega) h1 hE _ rfl hi w
  · go_enter Try.func3, Try.ntmps3
    go_wp2_with fail
    refine (fitsNot_any s i n _ (by omega) hm).mono ?_
    rintro e w' ⟨rfl, rfl⟩
    go_wp2
    go_ret
    exact ⟨rfl, Below.refl _ _⟩
end Go.Proofs.Qxb6612923a
