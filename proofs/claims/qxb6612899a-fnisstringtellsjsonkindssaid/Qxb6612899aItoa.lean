/-
  zzItoa by its contract: what it writes begins with '-' or a digit.
-/
import Derived.Test.Qxb6612899aQuote
namespace Go.Proofs.Qxb6612899a
open Go.RowKit

/-- The array of twenty bytes at block B, new since w: from place i on digits stand there. -/
structure Digs (w wr : World) (i : Nat) : Prop where
  bel : Below w.heap.size w wr
  lt : w.heap.size < wr.heap.size
  free : ∀ j, wr.frozen? ⟨w.heap.size, j, none⟩ = false
  all : ∀ j, j < 20 → ∃ d : Int, wr.cell? ⟨w.heap.size, j, none⟩ = some (.int .u8 d) ∧ (i ≤ j → 48 ≤ d ∧ d ≤ 57)

theorem Digs.store {w wr : World} {i : Nat} (h : Digs w wr (i + 1)) (hi : i < 20) (d : Int) (hd : 48 ≤ d ∧ d ≤ 57) : Digs w (wr.setCell ⟨w.heap.size, i, none⟩ (.int .u8 d)) i := by
  refine ⟨h.bel.setCell (Nat.le_refl _) _, by simpa using h.lt, by simpa using h.free, ?_⟩
  intro j hj
  by_cases hji : j = i
  · subst hji
    obtain ⟨d0, hc, _⟩ := h.all j hj
    exact ⟨d, World.cell?_setCell_same' wr _ _ (by simp [hc]), fun _ => hd⟩
  · obtain ⟨d0, hc, hr⟩ := h.all j hj
    refine ⟨d0, ?_, fun hle => hr (by omega)⟩
    exact (World.cell?_setCell_other wr _ _ _ (fun e => hji (by injection e with _ e2 _; exact e2.symm))).trans hc

theorem Digs.start (w : World) : Digs w (w.alloc (.cells #[.int .u8 0, .int .u8 0, .int .u8 0, .int .u8 0, .int .u8 0, .int .u8 0, .int .u8 0, .int .u8 0, .int .u8 0, .int .u8 0, .int .u8 0, .int .u8 0, .int .u8 0, .int .u8 0, .int .u8 0, .int .u8 0, .int .u8 0, .int .u8 0, .int .u8 0, .int .u8 0] 41)) 20 := by
  refine ⟨(Below.refl _ _).alloc (Nat.le_refl _) _, by simp, by simp [go_sem], ?_⟩
  intro j hj
  refine ⟨0, ?_, fun h => by omega⟩
  rw [World.cell?_alloc_new]
  have : j = 0 ∨ j = 1 ∨ j = 2 ∨ j = 3 ∨ j = 4 ∨ j = 5 ∨ j = 6 ∨ j = 7 ∨ j = 8 ∨ j = 9 ∨ j = 10 ∨ j = 11 ∨ j = 12 ∨ j = 13 ∨ j = 14 ∨ j = 15 ∨ j = 16 ∨ j = 17 ∨ j = 18 ∨ j = 19 := by omega
  rcases this with rfl | rfl | rfl | rfl | rfl | rfl | rfl | rfl | rfl | rfl | rfl | rfl | rfl | rfl | rfl | rfl | rfl | rfl | rfl | rfl <;> rfl

theorem pow_step {U J : Nat} (h : U < 10 ^ (J + 1)) : U / 10 < 10 ^ J := by
  rw [Nat.pow_succ] at h
  omega
theorem pow_some {U J : Nat} (h : U < 10 ^ J) (hU : 0 < U) : ∃ J', J = J' + 1 := by
  cases J with
  | zero => simp at h; omega
  | succ J => exact ⟨J, rfl⟩

theorem arr41 : Try.prog.underlying 41 = some (.array (Try.prog.arrayLen 41) (Try.prog.elem 41)) := by kernel_rfl
theorem len41 : Try.prog.arrayLen 41 = 20 := by kernel_rfl
theorem elem41 (W : World) : (sizeOf (Try.prog.elem 41)).run Try.prog W = .ok 1 W := by kernel_rfl
/-- 'buf[i:]' of the array of twenty bytes. -/
theorem run_tail (B J : Nat) (hJ : J < 20) (W : World) : (Instr.sliceAt 41 (.pointer (some ⟨B, 0, none⟩)) (some (.int .i64 (J : Int))) none none).run Try.prog W = .ok (.slice (some ⟨B, J, none⟩) (20 - J) (20 - J)) W := by
  rw [run_sliceAt_array_l W 41 _ arr41 .i64 (J : Int) (by omega) (by rw [len41]; omega), elem41, len41]
  have hne : ¬ 20 = J := by omega
  simp [Result.andThen, slicedAt, Addr.add, hne]
  omega

/-- A row that was laid since a later world was laid since an earlier one. -/
theorem Own.base {w w1 w' : World} {g n cap : Nat} {xs : List Value} (h : Own w1 w' g n cap xs) (hb : Below w.heap.size w w1) : Own w w' g n cap xs := by
  refine ⟨⟨h.row.1, ?_⟩, h.one, hb.trans (h.bel.mono hb.size)⟩
  rcases h.row.2 with ⟨hv, _⟩ | ⟨g', cap', cur, hv, hbg, rest⟩
  · simp at hv
  · exact .inr ⟨g', cap', cur, hv, Nat.le_trans hb.size hbg, rest⟩
/-- Cells that lay before the row was made lie there still. -/
theorem Own.old {wd w2 : World} {g n cap B J : Nat} {xs ds : List Value} (h : Own wd w2 g n cap xs) (hlt : B < wd.heap.size) (hc : Hid (∀ j u, ds[j]? = some u → wd.cell? ((⟨B, J, none⟩ : Addr).add j) = some u)) :
    ∀ j u, ds[j]? = some u → w2.cell? ((⟨B, J, none⟩ : Addr).add j) = some u := by
  intro j u hu
  have := hc.out j u hu
  rw [Addr.add_lit] at this ⊢
  exact (h.bel.cell (p := ⟨B, J + j, none⟩) hlt).trans this
/-- The digits, as a list. -/
theorem Digs.news {w wr : World} {J : Nat} (h : Digs w wr J) (hJ : J < 20) : ∃ (ds : List Value) (d : Int), ds.length = 20 - J ∧ Hid (∀ j u, ds[j]? = some u → wr.cell? ((⟨w.heap.size, J, none⟩ : Addr).add j) = some u) ∧ Hid (∀ u ∈ ds, u.oneCell' = true) ∧ Hid (ds[0]? = some (.int .u8 d)) ∧ 48 ≤ d ∧ d ≤ 57 := by
  obtain ⟨d, hd, hr⟩ := h.all J hJ
  refine ⟨(List.range (20 - J)).map fun t => (wr.cell? ⟨w.heap.size, J + t, none⟩).getD undef, d, by simp, ?_, ?_, ?_, (hr (Nat.le_refl _)).1, (hr (Nat.le_refl _)).2⟩
  · intro j u hu
    simp only [List.getElem?_map, Option.map_eq_some_iff] at hu
    obtain ⟨t, ht, hu⟩ := hu
    rw [List.getElem?_eq_some_iff] at ht
    obtain ⟨hlt, ht⟩ := ht
    simp at ht hlt
    subst ht
    obtain ⟨d, hd, _⟩ := h.all (J + j) (by omega)
    rw [hd] at hu
    rw [Addr.add_lit, hd, ← hu]
    rfl
  · intro u hu
    simp only [List.mem_map, List.mem_range] at hu
    obtain ⟨t, ht, rfl⟩ := hu
    obtain ⟨d, hd, _⟩ := h.all (J + t) (by omega)
    rw [hd]
    rfl
  · show _ = _
    rw [List.getElem?_map]
    have : (List.range (20 - J))[0]? = some 0 := by rw [List.getElem?_range]; omega
    rw [this]
    simp [hd]

set_option maxHeartbeats 1000000 in
theorem itoa_neg (n : Int) (h0 : -9223372036854775808 ≤ n) (h1 : n < 0) (w : World) :
    Calls Try.prog 15 #[.int .i64 n] w fun e w' => ∃ g m cap, e = .returned (.slice (some ⟨g, 0, none⟩) m cap) ∧ ∃ c, Made c 400000 w w' g m cap ∧ c ≠ 34 := by
  obtain ⟨U0, hU0⟩ : ∃ U0 : Nat, -(n + 1) + 1 = (U0 : Int) := ⟨(-n).toNat, by omega⟩
  have hp : U0 < 10 ^ (19 + 1) := by have : U0 ≤ 9223372036854775808 := by omega
                                     exact Nat.lt_of_le_of_lt this (by decide)
  have HP : Hid (U0 < 10 ^ (19 + 1)) := hp
  clear hp
  go_enter Try.func15, Try.ntmps15
  go_wp2_with fail
  go_loopw [3, 6] (fun u i wr => ∃ U J : Nat, u = .int .u64 U ∧ i = .int .i64 ((J : Int) + 1) ∧ J < 20 ∧ U ≤ 9223372036854775808 ∧ Hid (U < 10 ^ (J + 1)) ∧ Digs w wr (J + 1)) (fun _ i _ => (intOf i).toNat)
  case atStart => exact ⟨U0, 19, by first | rfl | rw [hU0], rfl, by omega, by omega, HP, Digs.start w⟩
  case round =>
    obtain ⟨U, J, rfl, rfl, hJ, hU1, hU, hD⟩ := hrel
    obtain ⟨d0, hd0, _⟩ := hD.all J hJ
    have hf0 := hD.free J
    have hsl := run_tail w.heap.size J hJ
    by_cases hz : (U : Int) / 10 = 0
    · obtain ⟨ds, d, hdl, hdc, hd1, hdh, hdlo, hdhi⟩ := (hD.store hJ (48 + (U : Int) % 10) (by omega)).news hJ
      have hltB := hD.lt
      go_wp2_with (first
        | (at_make; refine wpList_mk _ rfl _ _ rfl _ (Below.refl _ _) 21 _ rfl rfl (by omega) (by omega) ?_; intro w1 hO; simp only [World.size_setCell] at hO)
        | (at_builtin; refine wpList_app _ rfl (.tmp 32) _ rfl _ _ 0 21 [] rfl (hO.alloc _) _ _ _ _ rfl (by rfl) (World.news_of_block (heap_alloc_new _ _)) (by simp [Value.oneCell']) (by omega) (by omega) ?_; intro g2 cap2 w2 hO2; simp only [Nat.zero_add, List.nil_append] at hO2)
        | (at_builtin; refine wpList_app _ rfl (.tmp 35) (.tmp 37) rfl _ g2 1 cap2 _ rfl hO2 _ _ _ ds rfl hdl (hO2.old (by simpa using hltB) hdc) hd1.out (by omega) (by omega) ?_; intro g3 cap3 w3 hO3))
      go_ret
      exact ⟨g3, 1 + (20 - J), cap3, rfl, 45, ⟨_, hO3.base (hD.bel.setCell (Nat.le_refl _) _), rfl, by omega, by omega⟩, by omega⟩
    · go_wp2
      have hU' := pow_step hU.out
      obtain ⟨J', rfl⟩ := pow_some hU' (by omega)
      go_roundw
      case rel => exact ⟨U / 10, J', by go_num, by go_num, by omega, by omega, hU', hD.store hJ _ (by omega)⟩
      case measure => simp [intOf]; omega
set_option maxHeartbeats 1000000 in
theorem itoa_pos (n : Int) (h0 : 0 ≤ n) (h1 : n ≤ 9223372036854775807) (w : World) :
    Calls Try.prog 15 #[.int .i64 n] w fun e w' => ∃ g m cap, e = .returned (.slice (some ⟨g, 0, none⟩) m cap) ∧ ∃ c, Made c 400000 w w' g m cap ∧ c ≠ 34 := by
  obtain ⟨U0, hU0⟩ : ∃ U0 : Nat, n = (U0 : Int) := ⟨n.toNat, by omega⟩
  subst hU0
  have hp : U0 < 10 ^ (19 + 1) := by have : U0 ≤ 9223372036854775808 := by omega
                                     exact Nat.lt_of_le_of_lt this (by decide)
  have HP : Hid (U0 < 10 ^ (19 + 1)) := hp
  clear hp
  go_enter Try.func15, Try.ntmps15
  go_wp2_with fail
  go_loopw [3, 6] (fun u i wr => ∃ U J : Nat, u = .int .u64 U ∧ i = .int .i64 ((J : Int) + 1) ∧ J < 20 ∧ U ≤ 9223372036854775808 ∧ Hid (U < 10 ^ (J + 1)) ∧ Digs w wr (J + 1)) (fun _ i _ => (intOf i).toNat)
  case atStart => exact ⟨U0, 19, rfl, rfl, by omega, by omega, HP, Digs.start w⟩
  case round =>
    obtain ⟨U, J, rfl, rfl, hJ, hU1, hU, hD⟩ := hrel
    obtain ⟨d0, hd0, _⟩ := hD.all J hJ
    have hf0 := hD.free J
    have hsl := run_tail w.heap.size J hJ
    by_cases hz : (U : Int) / 10 = 0
    · obtain ⟨ds, d, hdl, hdc, hd1, hdh, hdlo, hdhi⟩ := (hD.store hJ (48 + (U : Int) % 10) (by omega)).news hJ
      have hltB := hD.lt
      go_wp2_with (first
        | (at_make; refine wpList_mk _ rfl _ _ rfl _ (Below.refl _ _) 21 _ rfl rfl (by omega) (by omega) ?_; intro w1 hO; simp only [World.size_setCell] at hO)
        | (at_builtin; refine wpList_app _ rfl (.tmp 35) (.tmp 37) rfl _ _ 0 21 _ rfl hO _ _ _ ds rfl hdl (hO.old (by simpa using hltB) hdc) hd1.out (by omega) (by omega) ?_; intro g3 cap3 w3 hO3; simp only [Nat.zero_add, List.nil_append] at hO3))
      go_ret
      exact ⟨g3, _, cap3, rfl, d, ⟨_, hO3.base (hD.bel.setCell (Nat.le_refl _) _), hdh.out, by omega, by omega⟩, by omega⟩
    · go_wp2
      have hU' := pow_step hU.out
      obtain ⟨J', rfl⟩ := pow_some hU' (by omega)
      go_roundw
      case rel => exact ⟨U / 10, J', by go_num, by go_num, by omega, by omega, hU', hD.store hJ _ (by omega)⟩
      case measure => simp [intOf]; omega

theorem itoa_any (n : Int) (h0 : -9223372036854775808 ≤ n) (h1 : n ≤ 9223372036854775807) (w : World) :
    Calls Try.prog 15 #[.int .i64 n] w fun e w' => ∃ g m cap, e = .returned (.slice (some ⟨g, 0, none⟩) m cap) ∧ ∃ c, Made c 400000 w w' g m cap ∧ c ≠ 34 := by
  by_cases hn : n < 0
  · exact itoa_neg n h0 hn w
  · exact itoa_pos n (by omega) h1 w
end Go.Proofs.Qxb6612899a
