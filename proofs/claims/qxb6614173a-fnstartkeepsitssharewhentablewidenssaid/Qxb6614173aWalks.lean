/-
  THE WALKS of the road of FnStartKeepsItsShareWhenTableWidens: the table's start at 768 and at 1024 slots, and the share's own test.
-/
import Derived.Test.Qxb6614173aRows
import Derived.WalkKit
import Derived.WalkSpells
import Derived.WalkLawsBesides
import Derived.RowKit3
import Derived.Outline
namespace Go.Proofs.Qxb6614173a
open Go.RowKit

/-- The product of a fragment and the factor, in 32 bits. -/
def prod (f : Int) : Int := f * 2654435769 % 4294967296
theorem prod_lo (f : Int) : 0 ≤ prod f := by unfold prod; omega
theorem prod_hi (f : Int) : prod f < 4294967296 := by unfold prod; omega

theorem ret_int {k : IntKind} {a b : Int} (h : a = b) : Ending.returned (.int k a) = .returned (.int k b) := by rw [h]

theorem back (p n : Int) (h0 : 0 ≤ p) (h1 : p < 4294967296) (hn : n = 768 ∨ n = 1024) :
    wrap64 (IntKind.u64.wrap (p * n) / 4294967296) = p * n / 4294967296 := by
  have e : IntKind.u64.wrap (p * n) = p * n % 18446744073709551616 := rfl
  have e2 : p * n % 18446744073709551616 = p * n := by
    rcases hn with rfl | rfl <;> exact Int.emod_eq_of_lt (by omega) (by omega)
  rw [e, e2]
  have b0 : 0 ≤ p * n / 4294967296 := by rcases hn with rfl | rfl <;> omega
  have b1 : p * n / 4294967296 < 1024 := by rcases hn with rfl | rfl <;> omega
  generalize p * n / 4294967296 = q at b0 b1
  unfold wrap64
  omega

set_option maxHeartbeats 400000 in
theorem start_any (f n : Int) (_hf : 0 ≤ f) (_hf' : f < 4294967296) (hn : n = 768 ∨ n = 1024) (b off : Nat) (w : World) (hc : w.cell? ⟨b, off + 4, none⟩ = some (.int .i64 n)) :
    Calls Try.prog 7 #[.pointer (some ⟨b, off, none⟩), .int .u32 f] w fun e w' => e = .returned (.int .i64 (prod f * n / 4294967296)) ∧ w' = w := by
  have h1 : 0 ≤ n := by omega
  have h2 : n ≤ 1024 := by omega
  go_enter Try.func7, Try.ntmps7
  go_wp2
  go_ret
  exact ⟨ret_int (back (prod f) n (prod_lo f) (prod_hi f) hn), rfl⟩

set_option maxHeartbeats 400000 in
theorem share_any (f r : Int) (_hf : 0 ≤ f) (_hf' : f < 4294967296) (hr : r = prod f * 1024 / 4294967296) (w : World) :
    Calls Try.prog 6 #[.int .i64 1024, .int .u32 f, .int .i64 r] w fun e w' => e = .returned (.bool true) ∧ w' = w := by
  have p0 := prod_lo f
  have p1 := prod_hi f
  have r0 : 0 ≤ r := by omega
  have r1 : r < 1024 := by omega
  have k1 : r * 4294967296 ≤ f * 2654435769 % 4294967296 * 1024 := by unfold prod at hr; omega
  have k2 : f * 2654435769 % 4294967296 * 1024 < (r + 1) * 4294967296 := by unfold prod at hr; omega
  clear hr
  go_enter Try.func6, Try.ntmps6
  go_wp2
  go_ret
  exact ⟨rfl, rfl⟩

/-- THE PLAIN LAW: four times the narrow start is within 3 of three times the wide one. -/
theorem near (p : Int) : -3 ≤ 4 * (p * 768 / 4294967296) - 3 * (p * 1024 / 4294967296) ∧ 4 * (p * 768 / 4294967296) - 3 * (p * 1024 / 4294967296) ≤ 3 := by
  omega

theorem new_any (n : Int) (w : World) :
    Calls Try.prog 5 #[.int .i64 n] w fun e w' => e = .returned (.pointer (some ⟨w.heap.size, 0, none⟩)) ∧ w' = w.alloc (.cells #[.pointer none, .pointer none, .pointer none, .pointer none, .int .i64 n, .int .i64 0, .int .u64 0] 33) := by
  go_enter Try.func5, Try.ntmps5
  go_wp2
  go_ret
  exact ⟨rfl, rfl⟩

set_option maxHeartbeats 400000 in
theorem zstart_any (f n : Int) (hf : 0 ≤ f) (hf' : f < 4294967296) (hn : n = 768 ∨ n = 1024) (b off : Nat) (w : World) (hc : w.cell? ⟨b, off + 4, none⟩ = some (.int .i64 n)) :
    Calls Try.prog 4 #[.pointer (some ⟨b, off, none⟩), .int .u32 f] w fun e w' => e = .returned (.int .i64 (prod f * n / 4294967296)) ∧ w' = w := by
  go_enter Try.func4, Try.ntmps4
  go_wp2_with (go_at_call 7; refine (start_any f n hf hf' hn b off _ hc).mono ?_; rintro e w' ⟨rfl, rfl⟩)
  go_ret
  exact ⟨rfl, rfl⟩

set_option maxHeartbeats 400000 in
theorem law_any (f : Int) (hf : 0 ≤ f) (hf' : f < 4294967296) (w : World) :
    Calls Try.prog 3 #[.int .u32 f] w fun e w' => e = .returned (.bool true) ∧ Grown w w' := by
  obtain ⟨p, hp⟩ : ∃ p, prod f = p := ⟨_, rfl⟩
  have p0 : 0 ≤ p := hp ▸ prod_lo f
  have p1 : p < 4294967296 := hp ▸ prod_hi f
  obtain ⟨n1, n2⟩ := near p
  have c1 := fun b w hc => zstart_any f 768 hf hf' (Or.inl rfl) b 0 w hc
  have c2 := fun b w hc => zstart_any f 1024 hf hf' (Or.inr rfl) b 0 w hc
  have c3 := fun w => share_any f (prod f * 1024 / 4294967296) hf hf' rfl w
  rw [hp] at c1 c2 c3
  have C1 : Hid _ := c1
  have C2 : Hid _ := c2
  have C3 : Hid _ := c3
  have s1 : 0 ≤ p * 768 / 4294967296 := by omega
  have s2 : p * 768 / 4294967296 < 768 := by omega
  have l1 : 0 ≤ p * 1024 / 4294967296 := by omega
  have l2 : p * 1024 / 4294967296 < 1024 := by omega
  clear c1 c2 c3 hp
  generalize p * 768 / 4294967296 = s at *
  generalize p * 1024 / 4294967296 = l at *
  go_enter Try.func3, Try.ntmps3
  go_wp2_with fail
  refine (new_any 768 _).mono ?_
  rintro e w' ⟨rfl, rfl⟩
  go_wp2_with fail
  refine (C1.out _ _ (by simp [go_sem])).mono ?_
  rintro e w' ⟨rfl, rfl⟩
  go_wp2_with fail
  refine (new_any 1024 _).mono ?_
  rintro e w' ⟨rfl, rfl⟩
  go_wp2_with fail
  refine (C2.out _ _ (by simp [go_sem])).mono ?_
  rintro e w' ⟨rfl, rfl⟩
  go_wp2_with fail
  refine (C3.out _).mono ?_
  rintro e w' ⟨rfl, rfl⟩
  go_wp2
  go_ret
  exact ⟨rfl, by repeat (first | exact Grown.refl _ | apply Grown.drew | apply Grown.alloc)⟩
end Go.Proofs.Qxb6614173a
