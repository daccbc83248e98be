/-
  isString by its contract, and the law's walk: FnIsStringTellsJSONKinds.
-/
import Derived.Test.Qxb6612899aItoa
import Derived.Lib.SlBytesConst
namespace Go.Proofs.Qxb6612899a
open Go.RowKit

theorem is19_yes (g n cap : Nat) (hn : 0 < n) (w : World) (hc : w.cell? ⟨g, 0, none⟩ = some (.int .u8 34)) :
    Calls Try.prog 19 #[.slice (some ⟨g, 0, none⟩) n cap] w fun e w' => e = .returned (.bool true) ∧ w' = w := by
  go_enter Try.func19, Try.ntmps19
  go_wp2
  go_ret
  exact ⟨rfl, rfl⟩
theorem is19_no (g n cap : Nat) (hn : 0 < n) (c : Int) (h34 : c ≠ 34) (w : World) (hc : w.cell? ⟨g, 0, none⟩ = some (.int .u8 c)) :
    Calls Try.prog 19 #[.slice (some ⟨g, 0, none⟩) n cap] w fun e w' => e = .returned (.bool false) ∧ w' = w := by
  have hb : (c == 34) = false := by simpa using h34
  go_enter Try.func19, Try.ntmps19
  go_wp2
  go_ret
  exact ⟨rfl, rfl⟩
theorem is14_yes (g n cap : Nat) (hn : 0 < n) (w : World) (hc : w.cell? ⟨g, 0, none⟩ = some (.int .u8 34)) :
    Calls Try.prog 14 #[.slice (some ⟨g, 0, none⟩) n cap] w fun e w' => e = .returned (.bool true) ∧ w' = w := by
  go_enter Try.func14, Try.ntmps14
  go_wp2_with (go_at_call 19; refine (is19_yes g n cap hn _ hc).mono ?_; rintro e w' ⟨rfl, rfl⟩)
  go_ret
  exact ⟨rfl, rfl⟩
theorem is14_no (g n cap : Nat) (hn : 0 < n) (c : Int) (h34 : c ≠ 34) (w : World) (hc : w.cell? ⟨g, 0, none⟩ = some (.int .u8 c)) :
    Calls Try.prog 14 #[.slice (some ⟨g, 0, none⟩) n cap] w fun e w' => e = .returned (.bool false) ∧ w' = w := by
  go_enter Try.func14, Try.ntmps14
  go_wp2_with (go_at_call 19; refine (is19_no g n cap hn c h34 _ hc).mono ?_; rintro e w' ⟨rfl, rfl⟩)
  go_ret
  exact ⟨rfl, rfl⟩
theorem fits3_any (s : ByteArray) (n : Int) (w : World) (hn : s.size ≤ 1048576) :
    Calls Try.prog 12 #[.string s, .int .i64 n] w fun e w' => e = .returned (.bool true) ∧ w' = w := by
  go_enter Try.func12, Try.ntmps12
  go_wp2
  go_ret
  exact ⟨rfl, rfl⟩
theorem fits3Not_any (s : ByteArray) (n : Int) (w : World) (hn : 1048576 < s.size) (hm : s.size ≤ maxLen) :
    Calls Try.prog 12 #[.string s, .int .i64 n] w fun e w' => e = .returned (.bool false) ∧ w' = w := by
  unfold maxLen at hm
  go_enter Try.func12, Try.ntmps12
  go_wp2
  go_ret
  exact ⟨rfl, rfl⟩

theorem lit_cell (w : World) (C : Array Value) (t : TypeId) (fr : Nat × Nat) (b j : Nat) (hb : b = w.heap.size) : (w.alloc (.cells C t fr)).cell? ⟨b, j, none⟩ = C[j]? := by
  subst hb
  exact World.cell?_alloc_mark w C t fr j

set_option maxHeartbeats 1000000 in
theorem law3_case (s : ByteArray) (n : Int) (hs : s.size ≤ 65536) (hn0 : -9223372036854775808 ≤ n) (hn1 : n ≤ 9223372036854775807) (w : World) :
    Calls Try.prog 5 #[.string s, .int .i64 n] w fun e w' => e = .returned (.bool true) ∧ Below w.heap.size w w' := by
  go_enter Try.func5, Try.ntmps5
  go_wp2_with fail
  refine (fits3_any s n _ (by omega)).mono ?_
  rintro e w' ⟨rfl, rfl⟩
  go_wp2_with fail
  refine (quote_any s hs _).mono ?_
  rintro e w1 ⟨g, m, cap, rfl, xs, hq, hx0, hm0, hm1⟩
  have hlen := hq.len
  go_wp2_with (first
    | (at_make; refine wpList_mk _ rfl (.const (.int .i64 0)) (.tmp 19) rfl w1 (Below.refl _ _) (m + 2) _ rfl rfl (by omega) (by omega) ?_; intro w2 hA0)
    | (at_builtin; refine wpList_app _ rfl (.tmp 21) (.tmp 22) rfl w1 _ 0 _ _ rfl (hA0.alloc _) _ _ _ _ rfl (by rfl) (World.news_of_block (heap_alloc_new _ _)) (by simp [Value.oneCell']) (by omega) (by omega) ?_; intro g1 cap1 w3 hA1; simp only [Nat.zero_add, List.nil_append] at hA1; have hq3 := hq.later hA1.bel)
    | (at_builtin; refine wpList_app _ rfl (.tmp 24) (.tmp 25) rfl w1 g1 1 cap1 _ rfl hA1 _ _ _ xs rfl hlen hq3.cells hq3.one hm0 (by omega) ?_; intro g2 cap2 w4 hA2)
    | (at_builtin; refine wpList_app _ rfl (.tmp 27) (.tmp 28) rfl w1 g2 _ cap2 _ rfl (hA2.alloc _) _ _ _ _ rfl (by rfl) (World.news_of_block (heap_alloc_new _ _)) (by simp [Value.oneCell']) (by omega) (by omega) ?_; intro g3 cap3 w5 hA3; have hq5 := hq.later hA3.bel)
    | (at_make; refine wpList_mk _ rfl (.const (.int .i64 0)) (.tmp 33) rfl w5 (Below.refl _ _) (2 * m + 3) _ rfl rfl (by omega) (by omega) ?_; intro w6 hB0)
    | (at_builtin; refine wpList_app _ rfl (.tmp 35) (.tmp 36) rfl w5 _ 0 _ _ rfl (hB0.alloc _) _ _ _ _ rfl (by rfl) (World.news_of_block (heap_alloc_new _ _)) (by simp [Value.oneCell']) (by omega) (by omega) ?_; intro h1 cap6 w7 hB1; simp only [Nat.zero_add, List.nil_append] at hB1; have hq7 := hq5.later hB1.bel)
    | (at_builtin; refine wpList_app _ rfl (.tmp 38) (.tmp 39) rfl w5 h1 1 cap6 _ rfl hB1 _ _ _ xs rfl hlen hq7.cells hq7.one hm0 (by omega) ?_; intro h2 cap7 w8 hB2)
    | (at_builtin; refine wpList_app _ rfl (.tmp 41) (.tmp 42) rfl w5 h2 _ cap7 _ rfl (hB2.alloc _) _ _ _ _ rfl (by rfl) (World.news_of_block (heap_alloc_new _ _)) (by simp [Value.oneCell']) (by omega) (by omega) ?_; intro h3 cap8 w9 hB3; have hq9 := hq5.later hB3.bel)
    | (at_builtin; refine wpList_app _ rfl (.tmp 44) (.tmp 45) rfl w5 h3 _ cap8 _ rfl hB3 _ _ _ xs rfl hlen hq9.cells hq9.one hm0 (by omega) ?_; intro h4 cap9 w10 hB4)
    | (at_builtin; refine wpList_app _ rfl (.tmp 47) (.tmp 48) rfl w5 h4 _ cap9 _ rfl (hB4.alloc _) _ _ _ _ rfl (by rfl) (World.news_of_block (heap_alloc_new _ _)) (by simp [Value.oneCell']) (by omega) (by omega) ?_; intro h5 cap10 w11 hB5))
  have hq11 := hq5.later hB5.bel
  have hA11 := hA3.later hB5.bel
  clear hA0 hA1 hA2 hA3 hB0 hB1 hB2 hB3 hB4 hq hq3 hq5 hq7 hq9
  refine (is14_yes g m cap hm0 _ (hq11.head hx0)).mono ?_
  rintro e w' ⟨rfl, rfl⟩
  go_wp2_with fail
  refine (itoa_any n hn0 hn1 _).mono ?_
  rintro e w12 ⟨g6, m6, cap6', rfl, c6, ⟨ys, hI, hy0, hm6, _⟩, hc6⟩
  go_wp2_with fail
  refine (is14_no g6 m6 cap6' hm6 c6 hc6 _ (hI.head hy0)).mono ?_
  rintro e w' ⟨rfl, rfl⟩
  have hA12 := hA11.later hI.bel
  have hB12 := hB5.later hI.bel
  go_wp2_with fail
  refine (is14_no g3 _ cap3 (by omega) 91 (by decide) _ (hA12.head rfl)).mono ?_
  rintro e w' ⟨rfl, rfl⟩
  go_wp2_with fail
  refine (is14_no h5 _ cap10 (by omega) 123 (by decide) _ (hB12.head rfl)).mono ?_
  rintro e w' ⟨rfl, rfl⟩
  have kc := fun (w : World) (C : Array Value) (n c : Nat) => Lib.run_convert_bytes_const (P := Try.prog) w 31 5 C n c Try.underlying31 Try.underlying5
  have kc2 := fun (w : World) (o1 : Obj) (C : Array Value) (n c : Nat) => kc (w.alloc o1) C n c
  have kc3 := fun (w : World) (o1 o2 : Obj) (C : Array Value) (n c : Nat) => kc ((w.alloc o1).alloc o2) C n c
  simp only [World.size_alloc] at kc2 kc3
  go_wp2_with fail
  refine (is14_no _ _ _ (by omega) 116 (by decide) _ (World.cell?_alloc_mark _ _ _ _ _)).mono ?_
  rintro e w' ⟨rfl, rfl⟩
  go_wp2_with fail
  refine (is14_no _ _ _ (by omega) 102 (by decide) _ (lit_cell _ _ _ _ _ _ (by simp))).mono ?_
  rintro e w' ⟨rfl, rfl⟩
  go_wp2_with fail
  refine (is14_no _ _ _ (by omega) 110 (by decide) _ (lit_cell _ _ _ _ _ _ (by simp))).mono ?_
  rintro e w' ⟨rfl, rfl⟩
  go_wp2
  go_ret
  refine ⟨rfl, ?_⟩
  have hz := (hq11.bel.trans (hI.bel.mono hq11.bel.size))
  exact ((hz.alloc hz.size _).alloc (by have := hz.size; simp; omega) _).alloc (by have := hz.size; simp; omega) _
set_option maxHeartbeats 400000 in
theorem law3_any (s : ByteArray) (n : Int) (hm : s.size ≤ maxLen) (hn0 : -9223372036854775808 ≤ n) (hn1 : n ≤ 9223372036854775807) (w : World) :
    Calls Try.prog 5 #[.string s, .int .i64 n] w fun e w' => e = .returned (.bool true) ∧ Below w.heap.size w w' := by
  by_cases hs : s.size ≤ 65536
  · exact law3_case s n hs hn0 hn1 w
  · by_cases hb : s.size ≤ 1048576
    · go_enter Try.func5, Try.ntmps5
      go_wp2_with fail
      refine (fits3_any s n _ hb).mono ?_
      rintro e w' ⟨rfl, rfl⟩
      go_wp2
      go_ret
      exact ⟨rfl, Below.refl _ _⟩
    · go_enter Try.func5, Try.ntmps5
      go_wp2_with fail
      refine (fits3Not_any s n _ (by omega) hm).mono ?_
      rintro e w' ⟨rfl, rfl⟩
      go_wp2
      go_ret
      exact ⟨rfl, Below.refl _ _⟩
end Go.Proofs.Qxb6612899a
