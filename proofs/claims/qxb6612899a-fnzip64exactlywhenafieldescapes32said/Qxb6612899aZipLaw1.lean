/-
  THE LAW's WALK: FnZip64ExactlyWhenAFieldEscapes32.
-/
import Derived.Test.Qxb6612899aZipWalks
namespace Go.Proofs.Qxb6612899a
open Go.RowKit

theorem big_zero : big 0 = false := rfl

set_option maxHeartbeats 400000 in
theorem law1_case (bo bc bs : Bool) (n : ByteArray) (o c s r f : Int) (hn : n.size ≤ 1048576) (ho0 : 0 ≤ o) (ho1 : o < 18446744073709551616) (hc0 : 0 ≤ c) (hc1 : c < 18446744073709551616) (hs0 : 0 ≤ s) (hs1 : s < 18446744073709551616) (ho : big o = bo) (hc : big c = bc) (hs : big s = bs) (w : World) :
    Calls Try.prog 3 #[.string n, .int .u64 o, .int .u64 c, .int .u64 s, .int .u32 r, .int .u16 f] w fun e w' => e = .returned (.bool true) ∧ Grown w w' := by
  have hz := big_zero
  cases bo <;> cases bc <;> cases bs
  all_goals
    go_enter Try.func3, Try.ntmps3
    go_wp2_with fail
    refine (fits_any n o c s r f _ hn).mono ?_
    rintro e w' ⟨rfl, rfl⟩
    go_wp2_with fail
    refine (new_any n o c s r f _).mono ?_
    rintro e w' ⟨rfl, rfl⟩
    go_wp2_with fail
    refine (zzip64_any o c s hc0 hs0 _ 0 _ (by simp [go_sem]) (by simp [go_sem]) (by simp [go_sem])).mono ?_
    rintro e w' ⟨rfl, rfl⟩
    go_wp2_with fail
    refine (new_any _ o 0 0 0 0 _).mono ?_
    rintro e w' ⟨rfl, rfl⟩
    go_wp2_with fail
    refine (zzip64_any o 0 0 (by omega) (by omega) _ 0 _ (by simp [go_sem]) (by simp [go_sem]) (by simp [go_sem])).mono ?_
    rintro e w' ⟨rfl, rfl⟩
    go_wp2_with fail
    refine (new_any _ 0 c 0 0 0 _).mono ?_
    rintro e w' ⟨rfl, rfl⟩
    go_wp2_with fail
    refine (zzip64_any 0 c 0 hc0 (by omega) _ 0 _ (by simp [go_sem]) (by simp [go_sem]) (by simp [go_sem])).mono ?_
    rintro e w' ⟨rfl, rfl⟩
    go_wp2_with fail
    refine (new_any _ 0 0 s 0 0 _).mono ?_
    rintro e w' ⟨rfl, rfl⟩
    go_wp2_with fail
    refine (zzip64_any 0 0 s (by omega) hs0 _ 0 _ (by simp [go_sem]) (by simp [go_sem]) (by simp [go_sem])).mono ?_
    rintro e w' ⟨rfl, rfl⟩
    go_wp2_with fail
    refine (esc_any o ho0 ho1 _).mono ?_
    rintro e w' ⟨rfl, rfl⟩
    go_wp2_with fail
    refine (esc_any c hc0 hc1 _).mono ?_
    rintro e w' ⟨rfl, rfl⟩
    go_wp2_with fail
    refine (esc_any s hs0 hs1 _).mono ?_
    rintro e w' ⟨rfl, rfl⟩
    go_wp2
    go_ret
    exact ⟨rfl, by repeat (first | exact Grown.refl _ | apply Grown.drew | apply Grown.alloc)⟩

set_option maxHeartbeats 400000 in
theorem law1_any (n : ByteArray) (o c s r f : Int) (hm : n.size ≤ maxLen) (ho0 : 0 ≤ o) (ho1 : o < 18446744073709551616) (hc0 : 0 ≤ c) (hc1 : c < 18446744073709551616) (hs0 : 0 ≤ s) (hs1 : s < 18446744073709551616) (w : World) :
    Calls Try.prog 3 #[.string n, .int .u64 o, .int .u64 c, .int .u64 s, .int .u32 r, .int .u16 f] w fun e w' => e = .returned (.bool true) ∧ Grown w w' := by
  by_cases hn : n.size ≤ 1048576
  · exact law1_case _ _ _ n o c s r f hn ho0 ho1 hc0 hc1 hs0 hs1 rfl rfl rfl w
  · go_enter Try.func3, Try.ntmps3
    go_wp2_with fail
    refine (fitsNot_any n o c s r f _ (by omega) hm).mono ?_
    rintro e w' ⟨rfl, rfl⟩
    go_wp2
    go_ret
    exact ⟨rfl, Grown.refl _⟩
end Go.Proofs.Qxb6612899a
