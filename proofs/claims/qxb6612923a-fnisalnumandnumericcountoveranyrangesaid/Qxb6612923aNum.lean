/-
  isDigit, isAlnum, strings.ContainsFunc at 'no digit', numeric: each by its contract. A text is numeric just where it is not empty and each of its bytes is an ASCII digit.
-/
import Derived.Test.Qxb6612923aRows
import Derived.WalkKit
import Derived.WalkSpells
import Derived.WalkLawsBesides
import Derived.RowKit3
import Derived.Outline
import Derived.Lib.OthersKept
import Derived.Laws.RangeAny
import Derived.Deep.LoopGhost
namespace Go.Proofs.Qxb6612923a
open Go.RowKit

/-- Is r an ASCII digit? -/
def digB (r : Int) : Bool := decide (48 ≤ r ∧ r ≤ 57)
theorem digB_yes {r : Int} (h0 : 48 ≤ r) (h1 : r ≤ 57) : digB r = true := by simp [digB, h0, h1]
theorem digB_no {r : Int} (h : r < 48 ∨ 57 < r) : digB r = false := by simp only [digB, decide_eq_false_iff_not]; omega
theorem digB_inv {r : Int} (h : digB r = true) : 48 ≤ r ∧ r ≤ 57 := by simpa [digB] using h
theorem digB_out {r : Int} (h : digB r = false) : r < 48 ∨ 57 < r := by simp only [digB, decide_eq_false_iff_not] at h; omega

/-- Are all bytes digits? -/
def allDig (l : List UInt8) : Bool := l.all fun c => digB (c.toNat : Int)

theorem ret_bool {a b : Bool} (h : a = b) : Ending.returned (.bool a) = .returned (.bool b) := by rw [h]

theorem digit_any (r : Int) (w : World) : Calls Try.prog 14 #[.int .i32 r] w fun e w' => e = .returned (.bool (digB r)) ∧ w' = w := by
  by_cases h : 48 ≤ r
  · go_enter Try.func14, Try.ntmps14
    go_wp2
    go_ret
    exact ⟨ret_bool (by simp [digB, h]), rfl⟩
  · go_enter Try.func14, Try.ntmps14
    go_wp2
    go_ret
    exact ⟨ret_bool (digB_no (by omega)).symm, rfl⟩
theorem notDigit_any (r : Int) (w : World) : Calls Try.prog 13 #[.int .i32 r] w fun e w' => e = .returned (.bool (!digB r)) ∧ w' = w := by
  go_enter Try.func13, Try.ntmps13
  go_wp2_with (go_at_call 14; refine (digit_any r _).mono ?_; rintro e w' ⟨rfl, rfl⟩)
  go_ret
  exact ⟨rfl, rfl⟩

theorem take_snoc (s : ByteArray) (k : Nat) (h : k < s.size) : s.data.toList.take (k + 1) = s.data.toList.take k ++ [s[k]] := by
  rw [List.take_succ_eq_append_getElem (by simpa using h)]; rfl
theorem allDig_snoc (l : List UInt8) (c : UInt8) : allDig (l ++ [c]) = (allDig l && digB (c.toNat : Int)) := by
  simp [allDig]
theorem allDig_append (l m : List UInt8) : allDig (l ++ m) = (allDig l && allDig m) := by simp [allDig]

/-- What the decoder hands out at a place, and whether the byte there is a digit. -/
theorem dec_yes (s : ByteArray) (pos : Nat) (h : pos < s.size) (hd : digB ((Utf8.decode s pos).1 : Int) = true) : (Utf8.decode s pos).2 = 1 ∧ digB (s[pos].toNat : Int) = true := by
  by_cases ha : (s[pos]'h).toNat < 128
  · rw [decode_ascii s pos h ha] at hd ⊢
    exact ⟨rfl, hd⟩
  · have := decode_high s pos h (by omega)
    have := digB_inv hd
    omega
theorem dec_no (s : ByteArray) (pos : Nat) (h : pos < s.size) (hd : digB ((Utf8.decode s pos).1 : Int) = false) : digB (s[pos].toNat : Int) = false := by
  by_cases ha : (s[pos]'h).toNat < 128
  · rw [decode_ascii s pos h ha] at hd
    exact hd
  · exact digB_no (by omega)
/-- A byte that is no digit. -/
theorem allDig_false (s : ByteArray) (pos : Nat) (h : pos < s.size) (hd : digB (s[pos].toNat : Int) = false) : allDig s.data.toList = false := by
  have e : s.data.toList = (s.data.toList.take pos ++ [s[pos]]) ++ s.data.toList.drop (pos + 1) := by
    rw [← take_snoc s pos h, List.take_append_drop]
  rw [e, allDig_append, allDig_snoc, hd]
  simp

set_option maxHeartbeats 1000000 in
theorem indexFunc_any (s : ByteArray) (w : World) :
    Calls Try.prog 16 #[.string s, .func (.func 13) #[] #[], .bool true] w fun e w' => ∃ r : Int, e = .returned (.int .i64 r) ∧ decide (0 ≤ r) = !allDig s.data.toList ∧ Below w.heap.size w w' := by
  go_enter Try.func16, Try.ntmps16
  go_wp2
  go_loopg [] s.size (fun gf wx => ∃ pos : Nat, wx.heap[w.heap.size]? = some (.stringIter s pos) ∧ Below w.heap.size w wx ∧ allDig (s.data.toList.take pos) = true ∧ s.size ≤ pos + gf)
  case atStart => exact ⟨0, World.iter_heap w s 0, (Below.refl _ w).alloc (Nat.le_refl _) _, rfl, by omega⟩
  case round =>
    obtain ⟨pos, hit, hbw, hall, hfu⟩ := hrel
    by_cases hps : pos < s.size
    · obtain ⟨g', rfl⟩ : ∃ g', gk = g' + 1 := ⟨gk - 1, by omega⟩
      have hnx : ∀ ty, (Instr.next (.pointer (some ⟨w.heap.size, 0, none⟩)) true ty).run Try.prog wr = _ := fun ty => Lib.run_next_any_at wr w.heap.size s pos ty hit hps
      have dy := dec_yes s pos hps
      have dn := dec_no s pos hps
      obtain ⟨R, hR⟩ : ∃ R, (Utf8.decode s pos).1 = R := ⟨_, rfl⟩
      obtain ⟨K, hK⟩ : ∃ K, (Utf8.decode s pos).2 = K := ⟨_, rfl⟩
      rw [hR, hK] at hnx
      rw [hR, hK] at dy
      rw [hR] at dn
      have hit2 := Lib.iterAt_heap wr w.heap.size s pos (pos + K) hit
      have hbw2 := Lib.below_iterAt hbw (k := w.heap.size) (Nat.le_refl _) s (pos + K)
      obtain ⟨W, hWd⟩ : ∃ W, wr.iterAt w.heap.size s (pos + K) = W := ⟨_, rfl⟩
      rw [hWd] at hnx hit2 hbw2
      clear hWd
      cases hsp : digB (R : Int)
      · have hf := allDig_false s pos hps (dn hsp)
        have cS : Hid (Calls Try.prog 13 #[.int .i32 (R : Int)] W fun e w' => e = .returned (.bool true) ∧ w' = W) := by
          have := notDigit_any (R : Int) W
          rw [hsp] at this
          exact this
        clear hR hK dy dn hsp hit
        go_wp2_with (go_at_call 13; refine cS.out.mono ?_; rintro e w' ⟨rfl, rfl⟩)
        go_ret
        exact ⟨pos, rfl, by rw [hf]; simp, hbw2⟩
      · obtain ⟨hK1, hsd⟩ := dy hsp
        have cS : Hid (Calls Try.prog 13 #[.int .i32 (R : Int)] W fun e w' => e = .returned (.bool false) ∧ w' = W) := by
          have := notDigit_any (R : Int) W
          rw [hsp] at this
          exact this
        subst hK1
        have hall' : Hid (allDig (s.data.toList.take (pos + 1)) = true) := by
          show _ = _
          rw [take_snoc s pos hps, allDig_snoc, hall, hsd]; rfl
        clear hR hK dn dy hsp hsd hit hall
        go_wp2_with (go_at_call 13; refine cS.out.mono ?_; rintro e w' ⟨rfl, rfl⟩)
        go_roundg g'
        case measure => omega
        case rel => exact ⟨pos + 1, hit2, hbw2, hall'.out, by omega⟩
    · have hnx : ∀ ty, (Instr.next (.pointer (some ⟨w.heap.size, 0, none⟩)) true ty).run Try.prog wr = _ := fun ty => Lib.run_next_end_at wr w.heap.size s pos ty hit hps
      have ht : s.data.toList.take pos = s.data.toList := List.take_of_length_le (by simp; omega)
      rw [ht] at hall
      have HA : Hid (allDig s.data.toList = true) := hall
      clear hall ht
      go_wp2
      go_ret
      exact ⟨-1, rfl, by rw [HA.out]; rfl, hbw⟩
end Go.Proofs.Qxb6612923a
