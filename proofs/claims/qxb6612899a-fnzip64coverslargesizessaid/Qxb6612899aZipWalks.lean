/-
  THE WALKS of the two zip64 laws' road.
-/
import Derived.Test.Qxb6612899aRows
import Derived.WalkKit
import Derived.WalkSpells
import Derived.WalkLawsBesides
import Derived.RegionTactic
import Derived.RowKit3
import Derived.Outline
import Derived.Laws.BitsAllLaws
namespace Go.Proofs.Qxb6612899a
open Go.RowKit

/-- Does v pass what four bytes hold (the marker of all ones among it)? -/
def big (v : Int) : Bool := decide (4294967295 ≤ v)
theorem big_or1 (c s : Int) (h : c < s) : decide (4294967295 ≤ s) = (big c || big s) := by
  unfold big
  rw [Bool.eq_iff_iff]
  simp only [decide_eq_true_eq, Bool.or_eq_true]
  omega
theorem big_or2 (c s : Int) (h : s ≤ c) : decide (4294967295 ≤ c) = (big c || big s) := by
  unfold big
  rw [Bool.eq_iff_iff]
  simp only [decide_eq_true_eq, Bool.or_eq_true]
  omega
theorem ret_bool {a b : Bool} (h : a = b) : Ending.returned (.bool a) = .returned (.bool b) := by rw [h]

/-- Bytes put side by side: '|' adds where the bits lie apart. -/
theorem or_add (k : Nat) (a b : Int) (h0 : 0 ≤ a) (h1 : a < 2 ^ k) (h2 : 0 ≤ b) (h3 : a + b * 2 ^ k < 18446744073709551616) (h4 : b * 2 ^ k < 18446744073709551616) (h5 : a < 18446744073709551616) :
    bits .or .u64 a (b * 2 ^ k) = a + b * 2 ^ k := by
  obtain ⟨a, rfl⟩ := Int.eq_ofNat_of_zero_le h0
  obtain ⟨b, rfl⟩ := Int.eq_ofNat_of_zero_le h2
  have e : ((b : Int) * 2 ^ k) = ((2 ^ k * b : Nat) : Int) := by rw [Nat.mul_comm]; simp
  rw [e] at h3 h4 ⊢
  rw [u64_or_nat a (2 ^ k * b) (by omega) (by omega)]
  have h1' : a < 2 ^ k := by
    have : ((a : Nat) : Int) < ((2 ^ k : Nat) : Int) := by simpa using h1
    omega
  rw [Nat.or_comm, ← Nat.two_pow_add_eq_or_of_lt h1' b]
  omega
theorem or1 (v : Int) : bits .or .u64 (v % 256) (v / 256 % 256 * 256) = v % 65536 := by
  have := or_add 8 (v % 256) (v / 256 % 256) (by omega) (by omega) (by omega) (by omega) (by omega) (by omega)
  simp only [show (2 : Int) ^ 8 = 256 from rfl] at this
  omega
theorem or2 (v : Int) : bits .or .u64 (v % 65536) (v / 65536 % 256 * 65536) = v % 16777216 := by
  have := or_add 16 (v % 65536) (v / 65536 % 256) (by omega) (by omega) (by omega) (by omega) (by omega) (by omega)
  simp only [show (2 : Int) ^ 16 = 65536 from rfl] at this
  omega
theorem or3 (v : Int) : bits .or .u64 (v % 16777216) (v / 16777216 % 256 * 16777216) = v % 4294967296 := by
  have := or_add 24 (v % 16777216) (v / 16777216 % 256) (by omega) (by omega) (by omega) (by omega) (by omega) (by omega)
  simp only [show (2 : Int) ^ 24 = 16777216 from rfl] at this
  omega

set_option maxHeartbeats 400000 in
theorem large_any (c s : Int) (_hc0 : 0 ≤ c) (_hs0 : 0 ≤ s) (b off : Nat) (w : World) (q1 : w.cell? ⟨b, off + 2, none⟩ = some (.int .u64 c)) (q2 : w.cell? ⟨b, off + 3, none⟩ = some (.int .u64 s)) :
    Calls Try.prog 17 #[.pointer (some ⟨b, off, none⟩)] w fun e w' => e = .returned (.bool (big c || big s)) ∧ w' = w.drew := by
  go_enter Try.func17, Try.ntmps17
  go_wp2
  go_region
  go_wp2
  · go_ret
    exact ⟨ret_bool (big_or1 c s ‹_›), rfl⟩
  · go_ret
    exact ⟨ret_bool (big_or2 c s ‹_›), rfl⟩

set_option maxHeartbeats 400000 in
theorem esc_any (v : Int) (hv0 : 0 ≤ v) (hv1 : v < 18446744073709551616) (w : World) :
    Calls Try.prog 9 #[.int .u64 v] w fun e w' => e = .returned (.bool (big v)) ∧ w' = w := by
  have k1 := or1 v
  have k2 := or2 v
  have k3 := or3 v
  go_enter Try.func9, Try.ntmps9
  go_wp2
  all_goals
    go_ret
    clear k1 k2 k3
    exact ⟨ret_bool (by unfold big; rw [Bool.eq_iff_iff]; simp; omega), rfl⟩

set_option maxHeartbeats 400000 in
theorem zip64_any (o c s : Int) (hc0 : 0 ≤ c) (hs0 : 0 ≤ s) (b off : Nat) (w : World) (q0 : w.cell? ⟨b, off + 1, none⟩ = some (.int .u64 o)) (q1 : w.cell? ⟨b, off + 2, none⟩ = some (.int .u64 c)) (q2 : w.cell? ⟨b, off + 3, none⟩ = some (.int .u64 s)) :
    Calls Try.prog 16 #[.pointer (some ⟨b, off, none⟩)] w fun e w' => e = .returned (.bool ((big c || big s) || big o)) ∧ w' = w.drew := by
  have L := large_any c s hc0 hs0 b off w q1 q2
  have HL : Hid _ := L
  clear L
  by_cases hb : (big c || big s) = true
  · rw [hb] at HL ⊢
    go_enter Try.func16, Try.ntmps16
    go_wp2_with fail
    refine Calls.mono HL.out ?_
    rintro e w' ⟨rfl, rfl⟩
    go_wp2
    go_ret
    exact ⟨rfl, rfl⟩
  · have hb' : (big c || big s) = false := by simpa using hb
    rw [hb'] at HL ⊢
    clear hb hb'
    go_enter Try.func16, Try.ntmps16
    go_wp2_with (go_at_call 17; refine Calls.mono HL.out ?_; rintro e w' ⟨rfl, rfl⟩)
    go_ret
    exact ⟨rfl, rfl⟩

set_option maxHeartbeats 400000 in
theorem zzip64_any (o c s : Int) (hc0 : 0 ≤ c) (hs0 : 0 ≤ s) (b off : Nat) (w : World) (q0 : w.cell? ⟨b, off + 1, none⟩ = some (.int .u64 o)) (q1 : w.cell? ⟨b, off + 2, none⟩ = some (.int .u64 c)) (q2 : w.cell? ⟨b, off + 3, none⟩ = some (.int .u64 s)) :
    Calls Try.prog 7 #[.pointer (some ⟨b, off, none⟩)] w fun e w' => e = .returned (.bool ((big c || big s) || big o)) ∧ w' = w.drew := by
  have HL : Hid _ := zip64_any o c s hc0 hs0 b off w q0 q1 q2
  go_enter Try.func7, Try.ntmps7
  go_wp2_with (go_at_call 16; refine Calls.mono HL.out ?_; rintro e w' ⟨rfl, rfl⟩)
  go_ret
  exact ⟨rfl, rfl⟩

set_option maxHeartbeats 400000 in
theorem zlarge_any (c s : Int) (hc0 : 0 ≤ c) (hs0 : 0 ≤ s) (b off : Nat) (w : World) (q1 : w.cell? ⟨b, off + 2, none⟩ = some (.int .u64 c)) (q2 : w.cell? ⟨b, off + 3, none⟩ = some (.int .u64 s)) :
    Calls Try.prog 11 #[.pointer (some ⟨b, off, none⟩)] w fun e w' => e = .returned (.bool (big c || big s)) ∧ w' = w.drew := by
  have HL : Hid _ := large_any c s hc0 hs0 b off w q1 q2
  go_enter Try.func11, Try.ntmps11
  go_wp2_with (go_at_call 17; refine Calls.mono HL.out ?_; rintro e w' ⟨rfl, rfl⟩)
  go_ret
  exact ⟨rfl, rfl⟩

theorem new_any (n : ByteArray) (o c s r f : Int) (w : World) :
    Calls Try.prog 8 #[.string n, .int .u64 o, .int .u64 c, .int .u64 s, .int .u32 r, .int .u16 f] w fun e w' => e = .returned (.pointer (some ⟨w.heap.size, 0, none⟩)) ∧ w' = w.alloc (.cells #[.string n, .int .u64 o, .int .u64 c, .int .u64 s, .int .u32 r, .int .u16 f] 37) := by
  go_enter Try.func8, Try.ntmps8
  go_wp2
  go_ret
  exact ⟨rfl, rfl⟩

/-- The bound on the name's length, as the two laws ask it first. -/
theorem fits_any (n : ByteArray) (o c s r f : Int) (w : World) (hn : n.size ≤ 1048576) :
    Calls Try.prog 6 #[.string n, .int .u64 o, .int .u64 c, .int .u64 s, .int .u32 r, .int .u16 f] w fun e w' => e = .returned (.bool true) ∧ w' = w := by
  go_enter Try.func6, Try.ntmps6
  go_wp2
  go_ret
  exact ⟨rfl, rfl⟩
theorem fitsNot_any (n : ByteArray) (o c s r f : Int) (w : World) (hn : 1048576 < n.size) (hm : n.size ≤ maxLen) :
    Calls Try.prog 6 #[.string n, .int .u64 o, .int .u64 c, .int .u64 s, .int .u32 r, .int .u16 f] w fun e w' => e = .returned (.bool false) ∧ w' = w := by
  unfold maxLen at hm
  go_enter Try.func6, Try.ntmps6
  go_wp2
  go_ret
  exact ⟨rfl, rfl⟩
theorem fits2_any (n : ByteArray) (o c s r f : Int) (w : World) (hn : n.size ≤ 1048576) :
    Calls Try.prog 10 #[.string n, .int .u64 o, .int .u64 c, .int .u64 s, .int .u32 r, .int .u16 f] w fun e w' => e = .returned (.bool true) ∧ w' = w := by
  go_enter Try.func10, Try.ntmps10
  go_wp2
  go_ret
  exact ⟨rfl, rfl⟩
theorem fits2Not_any (n : ByteArray) (o c s r f : Int) (w : World) (hn : 1048576 < n.size) (hm : n.size ≤ maxLen) :
    Calls Try.prog 10 #[.string n, .int .u64 o, .int .u64 c, .int .u64 s, .int .u32 r, .int .u16 f] w fun e w' => e = .returned (.bool false) ∧ w' = w := by
  unfold maxLen at hm
  go_enter Try.func10, Try.ntmps10
  go_wp2
  go_ret
  exact ⟨rfl, rfl⟩
end Go.Proofs.Qxb6612899a
