/-
  THE LAW's WALK: FnIsAlnumAndNumericCountOverAnyRange.
-/
import Derived.Test.Qxb6612923aNum2
namespace Go.Proofs.Qxb6612923a
open Go.RowKit

theorem over_start (lo a b : Int) (_h : a ≤ b) : over lo (lo - 1) a b = 0 := by
  unfold over
  repeat' split
  all_goals omega
theorem over_in (lo x a b : Int) (hl : lo ≤ x) (h1 : a ≤ x) (h2 : x ≤ b) : over lo x a b = over lo (x - 1) a b + 1 := by
  unfold over
  repeat' split
  all_goals omega
theorem over_out (lo x a b : Int) (hab : a ≤ b) (hl : lo ≤ x) (h : x < a ∨ b < x) : over lo x a b = over lo (x - 1) a b := by
  unfold over
  repeat' split
  all_goals omega
theorem over_lo (lo x a b : Int) : 0 ≤ over lo x a b := by
  unfold over
  repeat' split
  all_goals omega
theorem over_hi (lo x a b : Int) (ha : 0 ≤ a) (hb : b ≤ 1000) : over lo x a b ≤ 1001 := by
  unfold over
  repeat' split
  all_goals omega

/-- A one-rune text is numeric just where the rune is a digit. -/
theorem encode_num (r : Int) : numB (Utf8.encode r).data.toList = digB r := by
  by_cases hd : 0 ≤ r ∧ r < 128
  · have hv : Utf8.valid r = true := by
      simp only [Utf8.valid, Bool.or_eq_true, Bool.and_eq_true, decide_eq_true_eq]
      omega
    have hc : r.toNat < 128 := by omega
    have e : (Utf8.encode r).data.toList = [UInt8.ofNat r.toNat] := by
      simp [Utf8.encode, hv, hc]
    have hu : (((UInt8.ofNat r.toNat).toNat : Nat) : Int) = r := by
      rw [UInt8.toNat_ofNat']
      have : r.toNat % 2 ^ 8 = r.toNat := Nat.mod_eq_of_lt (by omega)
      rw [this]
      omega
    rw [e, numB_some (by simp)]
    show (digB (((UInt8.ofNat r.toNat).toNat : Nat) : Int) && true) = _
    rw [hu, Bool.and_true]
  · rw [digB_no (by omega)]
    obtain ⟨c, hc, hcm⟩ : ∃ c : Nat, (if Utf8.valid r then r.toNat else Utf8.runeError) = c ∧ 128 ≤ c ∧ c ≤ 1114111 := by
      refine ⟨_, rfl, ?_⟩
      by_cases hv : Utf8.valid r = true
      · simp only [hv, if_true]
        simp only [Utf8.valid, Bool.or_eq_true, Bool.and_eq_true, decide_eq_true_eq] at hv
        omega
      · simp [hv, Utf8.runeError]
    have hb : ∀ n : Nat, 128 ≤ n → n < 256 → digB (((UInt8.ofNat n).toNat : Nat) : Int) = false := by
      intro n h0 h1
      rw [UInt8.toNat_ofNat']
      have : n % 2 ^ 8 = n := Nat.mod_eq_of_lt (by omega)
      rw [this]
      exact digB_no (by omega)
    unfold Utf8.encode
    simp only [hc]
    have c0 : ¬ c < 128 := by omega
    rw [if_neg c0]
    by_cases c1 : c < 2048
    · rw [if_pos c1]
      show (digB (((UInt8.ofNat (192 + c / 64)).toNat : Nat) : Int) && _) = false
      rw [hb _ (by omega) (by omega)]; rfl
    · rw [if_neg c1]
      by_cases c2 : c < 65536
      · rw [if_pos c2]
        show (digB (((UInt8.ofNat (224 + c / 4096)).toNat : Nat) : Int) && _) = false
        rw [hb _ (by omega) (by omega)]; rfl
      · rw [if_neg c2]
        show (digB (((UInt8.ofNat (240 + c / 262144)).toNat : Nat) : Int) && _) = false
        rw [hb _ (by omega) (by omega)]; rfl

theorem rune_any (r : Int) (w : World) : Calls Try.prog 7 #[.string (Utf8.encode r)] w fun e w' => e = .returned (.bool (digB r)) ∧ Below w.heap.size w w' := by
  have := znumeric_any (Utf8.encode r) w
  rw [encode_num] at this
  exact this

theorem alnB_dig {r : Int} (h : digB r = true) : alnB r = true := by simp [alnB, h]
theorem alnB_up {r : Int} (h0 : 65 ≤ r) (h1 : r ≤ 90) : alnB r = true := by simp [alnB, h0, h1]
theorem alnB_low {r : Int} (h0 : 97 ≤ r) (h1 : r ≤ 122) : alnB r = true := by simp [alnB, h0, h1]
theorem alnB_no {r : Int} (h0 : r < 48 ∨ 57 < r) (h1 : r < 65 ∨ 90 < r) (h2 : r < 97 ∨ 122 < r) : alnB r = false := by
  unfold alnB
  rw [digB_no h0]
  simp
  omega

/-- What a round does to the three counts. -/
theorem step (lo x : Int) (hl : lo ≤ x) : ∃ d u l : Int, over lo x 48 57 = over lo (x - 1) 48 57 + d ∧ over lo x 65 90 = over lo (x - 1) 65 90 + u ∧ over lo x 97 122 = over lo (x - 1) 97 122 + l ∧
    ((digB x = true ∧ alnB x = true ∧ d = 1 ∧ u = 0 ∧ l = 0) ∨ (digB x = false ∧ alnB x = true ∧ d = 0 ∧ u + l = 1) ∨ (digB x = false ∧ alnB x = false ∧ d = 0 ∧ u = 0 ∧ l = 0)) := by
  by_cases hd : 48 ≤ x ∧ x ≤ 57
  · exact ⟨1, 0, 0, over_in lo x 48 57 hl hd.1 hd.2, by rw [over_out lo x 65 90 (by omega) hl (by omega)]; omega, by rw [over_out lo x 97 122 (by omega) hl (by omega)]; omega, .inl ⟨digB_yes hd.1 hd.2, alnB_dig (digB_yes hd.1 hd.2), rfl, rfl, rfl⟩⟩
  · have hd' : x < 48 ∨ 57 < x := by omega
    have e1 : over lo x 48 57 = over lo (x - 1) 48 57 + 0 := by rw [over_out lo x 48 57 (by omega) hl hd']; omega
    by_cases hu : 65 ≤ x ∧ x ≤ 90
    · exact ⟨0, 1, 0, e1, over_in lo x 65 90 hl hu.1 hu.2, by rw [over_out lo x 97 122 (by omega) hl (by omega)]; omega, .inr (.inl ⟨digB_no hd', alnB_up hu.1 hu.2, rfl, by omega⟩)⟩
    · by_cases hw : 97 ≤ x ∧ x ≤ 122
      · exact ⟨0, 0, 1, e1, by rw [over_out lo x 65 90 (by omega) hl (by omega)]; omega, over_in lo x 97 122 hl hw.1 hw.2, .inr (.inl ⟨digB_no hd', alnB_low hw.1 hw.2, rfl, by omega⟩)⟩
      · exact ⟨0, 0, 0, e1, by rw [over_out lo x 65 90 (by omega) hl (by omega)]; omega, by rw [over_out lo x 97 122 (by omega) hl (by omega)]; omega, .inr (.inr ⟨digB_no hd', alnB_no hd' (by omega) (by omega), rfl, rfl, rfl⟩)⟩

set_option maxHeartbeats 1000000 in
theorem count_in (lo hi : Int) (h1 : -2147483648 ≤ lo) (h2 : lo ≤ hi) (h3 : hi ≤ 2147483647) (h4 : hi - lo ≤ 65536) (w : World) :
    Calls Try.prog 4 #[.int .i32 lo, .int .i32 hi] w fun e w' => e = .returned (.bool true) ∧ Below w.heap.size w w' := by
  go_enter Try.func4, Try.ntmps4
  go_wp2_with fail
  go_loopw [5, 6, 7] (fun va vd vx wr => ∃ x : Int, lo ≤ x ∧ x ≤ hi + 1 ∧ vx = .int .i64 x ∧ va = .int .i64 (over lo (x - 1) 48 57 + over lo (x - 1) 65 90 + over lo (x - 1) 97 122) ∧ vd = .int .i64 (over lo (x - 1) 48 57) ∧ Below w.heap.size w wr) (fun _ _ vx _ => (hi + 1 - intOf vx).toNat)
  case atStart => exact ⟨lo, by omega, by omega, rfl, by rw [over_start _ _ _ (by omega), over_start _ _ _ (by omega), over_start _ _ _ (by omega)]; rfl, by rw [over_start _ _ _ (by omega)], Below.refl _ _⟩
  case round =>
    obtain ⟨x, hx0, hx1, rfl, rfl, rfl, hb⟩ := hrel
    have d0 := over_lo lo (x - 1) 48 57
    have u0 := over_lo lo (x - 1) 65 90
    have l0 := over_lo lo (x - 1) 97 122
    have d1 := over_hi lo (x - 1) 48 57 (by omega) (by omega)
    have u1 := over_hi lo (x - 1) 65 90 (by omega) (by omega)
    have l1 := over_hi lo (x - 1) 97 122 (by omega) (by omega)
    by_cases hle : x ≤ hi
    · obtain ⟨d, u, l, ed, eu, el, hway⟩ := step lo x hx0
      have ED : Hid (over lo x 48 57 = over lo (x - 1) 48 57 + d) := ed
      have EU : Hid (over lo x 65 90 = over lo (x - 1) 65 90 + u) := eu
      have EL : Hid (over lo x 97 122 = over lo (x - 1) 97 122 + l) := el
      clear ed eu el
      have hx : x + 1 - 1 = x := by omega
      have HX : Hid (x + 1 - 1 = x) := hx
      clear hx
      have CA := fun W => zalnum_any x W
      have CD := fun W => rune_any x W
      rcases hway with ⟨e1, e2, rfl, rfl, rfl⟩ | ⟨e1, e2, rfl, eul⟩ | ⟨e1, e2, rfl, rfl, rfl⟩
      all_goals
        rw [e2] at CA
        rw [e1] at CD
        have HA : Hid _ := CA
        have HD : Hid _ := CD
        clear CA CD e1 e2
        go_wp2_with fail
        refine Calls.mono (HA.out _) ?_
        rintro e w' ⟨rfl, rfl⟩
        go_wp2_with fail
        refine Calls.mono (HD.out _) ?_
        rintro e w2 ⟨rfl, hb2⟩
        go_wp2
        go_roundw
        case rel => exact ⟨x + 1, by omega, by omega, by go_num, by rw [HX.out, ED.out, EU.out, EL.out]; go_num, by rw [HX.out, ED.out] <;> go_num, hb.trans (hb2.mono hb.size)⟩
        case measure => simp [intOf]; omega
    · obtain rfl : x = hi + 1 := by omega
      have hx : hi + 1 - 1 = hi := by omega
      rw [hx] at d0 u0 l0 d1 u1 l1 ⊢
      go_wp2_with fail
      refine (overlap_any lo hi 48 57 (by omega) (by omega) (by omega) (by omega) (by omega) (by omega) (by omega) (by omega) _).mono ?_
      rintro e w' ⟨rfl, rfl⟩
      go_wp2_with fail
      refine (overlap_any lo hi 65 90 (by omega) (by omega) (by omega) (by omega) (by omega) (by omega) (by omega) (by omega) _).mono ?_
      rintro e w' ⟨rfl, rfl⟩
      go_wp2_with fail
      refine (overlap_any lo hi 97 122 (by omega) (by omega) (by omega) (by omega) (by omega) (by omega) (by omega) (by omega) _).mono ?_
      rintro e w' ⟨rfl, rfl⟩
      go_wp2
      go_ret
      exact ⟨rfl, hb⟩

set_option maxHeartbeats 400000 in
theorem count_any (lo hi : Int) (h1 : -2147483648 ≤ lo) (h2 : lo ≤ 2147483647) (h3 : -2147483648 ≤ hi) (h4 : hi ≤ 2147483647) (w : World) :
    Calls Try.prog 4 #[.int .i32 lo, .int .i32 hi] w fun e w' => e = .returned (.bool true) ∧ Below w.heap.size w w' := by
  by_cases hlt : hi < lo
  · go_enter Try.func4, Try.ntmps4
    go_wp2
    go_ret
    exact ⟨rfl, Below.refl _ _⟩
  · by_cases hfar : 65536 < hi - lo
    · go_enter Try.func4, Try.ntmps4
      go_wp2
      go_ret
      exact ⟨rfl, Below.refl _ _⟩
    · exact count_in lo hi h1 (by omega) h4 (by omega) w
end Go.Proofs.Qxb6612923a
