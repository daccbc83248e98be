/-
  zzHex and zzJSONQuote by their contracts: the quoted text begins with a quote, and is not long.
-/
import Derived.Test.Qxb6612899aParts
import Derived.Laws.BitsAllLaws
namespace Go.Proofs.Qxb6612899a
open Go.RowKit

theorem hex_any (c : Int) (h0 : 0 ≤ c) (h1 : c < 16) (w : World) :
    Calls Try.prog 18 #[.int .u8 c] w fun e w' => (∃ d : Int, e = .returned (.int .u8 d)) ∧ w' = w := by
  by_cases hc : c < 10
  · go_enter Try.func18, Try.ntmps18
    go_wp2
    go_ret
    exact ⟨⟨_, rfl⟩, rfl⟩
  · go_enter Try.func18, Try.ntmps18
    go_wp2
    go_ret
    exact ⟨⟨_, rfl⟩, rfl⟩

theorem and15 (c : Int) (h0 : 0 ≤ c) (h1 : c < 256) : 0 ≤ bits .and .u8 c 15 ∧ bits .and .u8 c 15 < 16 := by
  rw [u8_and c 15 h0 h1 (by omega) (by omega)]
  have : c.toNat &&& (15 : Int).toNat ≤ 15 := Nat.and_le_right
  omega

theorem first_app {xs ys : List Value} {u : Value} (h : xs[0]? = some u) : (xs ++ ys)[0]? = some u := by
  cases xs with
  | nil => simp at h
  | cons x xs => simpa using h

/-- A row of bytes laid since w: it begins with c, and has at most N bytes. -/
def Made (c : Int) (N : Nat) (w w' : World) (g n cap : Nat) : Prop := ∃ xs, Own w w' g n cap xs ∧ xs[0]? = some (.int .u8 c) ∧ 0 < n ∧ n ≤ N

set_option maxHeartbeats 1000000 in
theorem quote_any (s : ByteArray) (hs : s.size ≤ 65536) (w : World) :
    Calls Try.prog 13 #[.string s] w fun e w' => ∃ g n cap, e = .returned (.slice (some ⟨g, 0, none⟩) n cap) ∧ Made 34 400000 w w' g n cap := by
  go_enter Try.func13, Try.ntmps13
  go_wp2_with (first
    | (at_make; refine wpList_mk _ rfl _ _ rfl w (Below.refl _ _) (s.size + 2) _ rfl rfl (by omega) (by omega) ?_; intro w1 hO)
    | (at_builtin; refine wpList_app _ rfl _ _ rfl w w.heap.size 0 (s.size + 2) [] rfl (hO.alloc _) _ _ _ _ rfl (by rfl) (World.news_of_block (heap_alloc_new _ _)) (by simp [Value.oneCell']) (by omega) (by omega) ?_; intro g1 cap1 w2 hO2))
  simp only [Nat.zero_add, List.nil_append] at hO2
  go_loopw [3, 4] (fun v i wr => ∃ (k g m cap : Nat) (xs : List Value), k ≤ s.size ∧ i = .int .i64 k ∧ v = .slice (some ⟨g, 0, none⟩) m cap ∧ Own w wr g m cap xs ∧ xs[0]? = some (.int .u8 34) ∧ 0 < m ∧ m ≤ 6 * k + 1) (fun _ i _ => s.size - (intOf i).toNat)
  case atStart => exact ⟨0, g1, 1, cap1, _, Nat.zero_le _, rfl, rfl, hO2, rfl, by omega, by omega⟩
  case round =>
    clear hO hO2
    obtain ⟨k, g, m, cap, xs, hk, rfl, rfl, hO, hx0, hm0, hm⟩ := hrel
    by_cases hlt : k < s.size
    · go_wp2_with (first
        | (at_builtin; refine wpList_app _ rfl _ _ rfl w g m cap xs rfl (hO.alloc _) _ _ _ _ rfl (by rfl) (World.news_of_block (heap_alloc_new _ _)) (by simp [Value.oneCell']) (by omega) (by omega) ?_; intro g' cap' w' hO')
        | (go_at_call 18; refine (hex_any _ ?_ ?_ _).mono ?_; (have := s[k].toNat_lt; first | omega | exact (and15 _ (by omega) (by omega)).1); (have := s[k].toNat_lt; first | omega | exact (and15 _ (by omega) (by omega)).2); rintro e w' ⟨⟨d, rfl⟩, rfl⟩))
      all_goals
        go_roundw
        case rel => exact ⟨k + 1, g', _, cap', _, by omega, by go_num, rfl, hO', first_app hx0, by omega, by omega⟩
        case measure => simp [intOf]; omega
    · go_wp2_with (at_builtin; refine wpList_app _ rfl _ _ rfl w g m cap xs rfl (hO.alloc _) _ _ _ _ rfl (by rfl) (World.news_of_block (heap_alloc_new _ _)) (by simp [Value.oneCell']) (by omega) (by omega) ?_; intro g' cap' w' hO')
      go_ret
      exact ⟨g', m + 1, cap', rfl, _, hO', first_app hx0, by omega, by omega⟩
end Go.Proofs.Qxb6612899a
