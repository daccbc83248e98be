/-
  THE LAW's WALK: FnNumericSplitsAtAnyCutAndTakesDecimals.
-/
import Derived.Test.Qxb6612923aDecimal
import Derived.Lib.IndexBytes
import Derived.Deep.RegionWith
namespace Go.Proofs.Qxb6612923a
open Go.RowKit

/-- Is the text numeric? (A name that the walk does not look behind.) -/
def numOf (s : ByteArray) : Bool := numB s.data.toList

theorem znum (s : ByteArray) (w : World) : Calls Try.prog 7 #[.string s] w fun e w' => e = .returned (.bool (numOf s)) ∧ Below w.heap.size w w' := znumeric_any s w

theorem fits_any (s : ByteArray) (i n : Int) (w : World) (hn : s.size ≤ 1048576) :
    Calls Try.prog 5 #[.string s, .int .i64 i, .int .i64 n] w fun e w' => e = .returned (.bool true) ∧ w' = w := by
  go_enter Try.func5, Try.ntmps5
  go_wp2
  go_ret
  exact ⟨rfl, rfl⟩
theorem fitsNot_any (s : ByteArray) (i n : Int) (w : World) (hn : 1048576 < s.size) (hm : s.size ≤ maxLen) :
    Calls Try.prog 5 #[.string s, .int .i64 i, .int .i64 n] w fun e w' => e = .returned (.bool false) ∧ w' = w := by
  unfold maxLen at hm
  go_enter Try.func5, Try.ntmps5
  go_wp2
  go_ret
  exact ⟨rfl, rfl⟩

/-! ### THE PLAIN LAW -/
theorem numOf_list {l : List UInt8} (h : l ≠ []) : numOf ⟨l.toArray⟩ = allDig l := by
  show numB l.toArray.toList = _
  simpa using numB_some h
theorem numOf_cat (s : ByteArray) {l : List UInt8} (h : l ≠ []) : numOf (s ++ ⟨l.toArray⟩) = (allDig s.data.toList && allDig l) := by
  have e : (s ++ (⟨l.toArray⟩ : ByteArray)).data.toList = s.data.toList ++ l := by simp [ByteArray.data_append]
  show numB _ = _
  rw [e, numB_some (by simp [h]), allDig_append]
theorem data_nil {s : ByteArray} (h : s.toList = []) : s.data.toList = [] := by rw [← ByteArray.toList_eq]; exact h
theorem data_some {s : ByteArray} (h : ¬ s.toList = []) : s.data.toList ≠ [] := by rw [← ByteArray.toList_eq]; exact h
theorem numOf_some {s : ByteArray} (h : ¬ s.toList = []) : numOf s = allDig s.data.toList := numB_some (data_some h)
theorem numOf_cut (s : ByteArray) (k : Nat) (h0 : 0 < k) (h1 : k < s.size) : numOf s = (numOf (s.extract 0 k) && numOf (s.extract k s.size)) := by
  have hsz : s.data.toList.length = s.size := by simp
  have hp : (s.extract 0 k).data.toList = s.data.toList.take k := by rw [Lib.extract_data]; simp
  have hq := Lib.extract_to_end s k
  show numB _ = (numB _ && numB _)
  rw [hp, hq]
  have n0 : s.data.toList ≠ [] := by intro h; rw [h] at hsz; simp at hsz; omega
  have n1 : s.data.toList.take k ≠ [] := by
    intro h
    have := congrArg List.length h
    rw [List.length_take, hsz, List.length_nil] at this
    omega
  have n2 : s.data.toList.drop k ≠ [] := by
    intro h
    have := congrArg List.length h
    rw [List.length_drop, hsz, List.length_nil] at this
    omega
  rw [numB_some n0, numB_some n1, numB_some n2, ← allDig_append, List.take_append_drop]

theorem run_cat (s : ByteArray) (l : List UInt8) (hs : s.size ≤ 1048576) (hl : l.length ≤ 21) (W : World) : (Op.stringOp .add s ⟨l.toArray⟩).run Try.prog W = .ok (.string (s ++ ⟨l.toArray⟩)) W :=
  run_string_add_sum W s ⟨l.toArray⟩ (by show s.size + l.toArray.size ≤ _; simp; omega)

/-- decimal's contract, as the law asks it. -/
theorem dec_any (s : ByteArray) (hs : s.size ≤ 1048576) (n : Int) (h0 : -9223372036854775808 ≤ n) (h1 : n ≤ 9223372036854775807) (bn bx : Bool) (hbn : decide (0 ≤ n) = bn) (hbx : (allDig s.data.toList && bn) = bx) (W : World) :
    Calls Try.prog 6 #[.int .i64 n] W fun e w' => ∃ l : List UInt8, e = .returned (.string ⟨l.toArray⟩) ∧ numOf ⟨l.toArray⟩ = bn ∧ numOf (s ++ ⟨l.toArray⟩) = bx ∧ (∀ W', (Op.stringOp .add s ⟨l.toArray⟩).run Try.prog W' = .ok (.string (s ++ ⟨l.toArray⟩)) W') ∧ Below W.heap.size W w' := by
  refine (decimal_any n h0 h1 W).mono ?_
  rintro e w' ⟨l, rfl, hl0, hl1, hl2, hb⟩
  refine ⟨l, rfl, ?_, ?_, run_cat s l hs hl1, hb⟩
  · rw [numOf_list hl0, hl2, hbn]
  · rw [numOf_cat s hl0, hl2, hbn, hbx]

set_option maxHeartbeats 1000000 in
/-- n is negative, no cut inside. -/
theorem out_neg (s : ByteArray) (i n : Int) (hs : s.size ≤ 1048576) (h0 : -9223372036854775808 ≤ n) (hn : n < 0) (hi : i ≤ 0 ∨ (s.size : Int) ≤ i) (w : World) :
    Calls Try.prog 3 #[.string s, .int .i64 i, .int .i64 n] w fun e w' => e = .returned (.bool true) ∧ Below w.heap.size w w' := by
  have HD : Hid (∀ W, Calls Try.prog 6 #[.int .i64 n] W fun e w' => ∃ l : List UInt8, e = .returned (.string ⟨l.toArray⟩) ∧ numOf ⟨l.toArray⟩ = false ∧ numOf (s ++ ⟨l.toArray⟩) = false ∧ (∀ W', (Op.stringOp .add s ⟨l.toArray⟩).run Try.prog W' = .ok (.string (s ++ ⟨l.toArray⟩)) W') ∧ Below W.heap.size W w') :=
    fun W => dec_any s hs n h0 (by omega) false false (by simp; omega) (by simp) W
  rcases hi with hi | hi
  all_goals
    go_enter Try.func3, Try.ntmps3
    go_wp2_with fail
    refine (fits_any s i n _ hs).mono ?_
    rintro e w' ⟨rfl, rfl⟩
    go_wp2_with fail
    refine (HD.out _).mono ?_
    rintro e w1 ⟨l, rfl, e1, e2, hadd, hb1⟩
    go_wp2_with fail
    refine (znum _ _).mono ?_
    rintro e w2 ⟨rfl, hb2⟩
    go_wp2_with fail
    refine (znum _ _).mono ?_
    rintro e w3 ⟨rfl, hb3⟩
    clear HD
    go_wp2
    all_goals go_ret
    all_goals exact ⟨rfl, hb1.trans ((hb2.trans (hb3.mono hb2.size)).mono hb1.size)⟩

set_option maxHeartbeats 1000000 in
/-- The text is empty, n is not negative. -/
theorem out_empty (s : ByteArray) (i n : Int) (hs : s.size ≤ 1048576) (h0 : 0 ≤ n) (h1 : n ≤ 9223372036854775807) (hE : s.toList = []) (hi : i ≤ 0 ∨ (s.size : Int) ≤ i) (w : World) :
    Calls Try.prog 3 #[.string s, .int .i64 i, .int .i64 n] w fun e w' => e = .returned (.bool true) ∧ Below w.heap.size w w' := by
  have HD : Hid (∀ W, Calls Try.prog 6 #[.int .i64 n] W fun e w' => ∃ l : List UInt8, e = .returned (.string ⟨l.toArray⟩) ∧ numOf ⟨l.toArray⟩ = true ∧ numOf (s ++ ⟨l.toArray⟩) = true ∧ (∀ W', (Op.stringOp .add s ⟨l.toArray⟩).run Try.prog W' = .ok (.string (s ++ ⟨l.toArray⟩)) W') ∧ Below W.heap.size W w') :=
    fun W => dec_any s hs n (by omega) h1 true true (by simp; omega) (by rw [data_nil hE]; rfl) W
  rcases hi with hi | hi
  all_goals
    go_enter Try.func3, Try.ntmps3
    go_wp2_with fail
    refine (fits_any s i n _ hs).mono ?_
    rintro e w' ⟨rfl, rfl⟩
    go_wp2_with fail
    refine (HD.out _).mono ?_
    rintro e w1 ⟨l, rfl, e1, e2, hadd, hb1⟩
    go_wp2_with fail
    refine (znum _ _).mono ?_
    rintro e w2 ⟨rfl, hb2⟩
    go_wp2_with fail
    refine (znum _ _).mono ?_
    rintro e w3 ⟨rfl, hb3⟩
    clear HD
    go_wp2
    all_goals go_ret
    all_goals exact ⟨rfl, hb1.trans ((hb2.trans (hb3.mono hb2.size)).mono hb1.size)⟩

set_option maxHeartbeats 1000000 in
/-- The text is not empty, n is not negative, no cut inside. -/
theorem out_some (s : ByteArray) (i n : Int) (hs : s.size ≤ 1048576) (h0 : 0 ≤ n) (h1 : n ≤ 9223372036854775807) (hE : ¬ s.toList = []) (bC : Bool) (hC : numOf s = bC) (hi : i ≤ 0 ∨ (s.size : Int) ≤ i) (w : World) :
    Calls Try.prog 3 #[.string s, .int .i64 i, .int .i64 n] w fun e w' => e = .returned (.bool true) ∧ Below w.heap.size w w' := by
  have hC' := numOf_some hE
  rw [hC] at hC'
  have HD : Hid (∀ W, Calls Try.prog 6 #[.int .i64 n] W fun e w' => ∃ l : List UInt8, e = .returned (.string ⟨l.toArray⟩) ∧ numOf ⟨l.toArray⟩ = true ∧ numOf (s ++ ⟨l.toArray⟩) = bC ∧ (∀ W', (Op.stringOp .add s ⟨l.toArray⟩).run Try.prog W' = .ok (.string (s ++ ⟨l.toArray⟩)) W') ∧ Below W.heap.size W w') :=
    fun W => dec_any s hs n (by omega) h1 true bC (by simp; omega) (by rw [← hC']; simp) W
  clear hC'
  have hE2 : s.toList.isEmpty = false := by simpa using hE
  cases bC <;> rcases hi with hi | hi
  all_goals
    go_enter Try.func3, Try.ntmps3
    go_wp2_with fail
    refine (fits_any s i n _ hs).mono ?_
    rintro e w' ⟨rfl, rfl⟩
    go_wp2_with fail
    refine (HD.out _).mono ?_
    rintro e w1 ⟨l, rfl, e1, e2, hadd, hb1⟩
    go_wp2_with fail
    refine (znum _ _).mono ?_
    rintro e w2 ⟨rfl, hb2⟩
    go_wp2_with fail
    refine (znum _ _).mono ?_
    rintro e w3 ⟨rfl, hb3⟩
    go_wp2_with fail
    refine (znum _ _).mono ?_
    rintro e w4 ⟨rfl, hb4⟩
    clear HD
    go_wp2
    all_goals go_ret
    all_goals exact ⟨rfl, hb1.trans ((hb2.trans ((hb3.trans (hb4.mono hb3.size)).mono hb2.size)).mono hb1.size)⟩

end Go.Proofs.Qxb6612923a
