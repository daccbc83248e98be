/-
  zzCloneBytes by its contract: a copy in new memory; nil stays nil.
-/
import Derived.Test.Qxb6613125aRows
import Derived.WalkKit
import Derived.WalkSpells
import Derived.WalkLawsBesides
import Derived.RowKit3
import Derived.Outline
import Derived.Lib.SliceRun
import Derived.Lib.AppendStr
import Derived.Deep.AppendLies
import Derived.BigQuiet
namespace Go.Proofs.Qxb6613125a
open Go.RowKit

theorem info5 : (Try.prog.info? 5).map (fun i => (i.zero, i.size, i.bytes)) = some (some (.int .u8 0), 1, 1) := by kernel_rfl

/-- Bytes as cells. -/
def bs (zs : List Int) : List Value := zs.map (Value.int .u8)
theorem bs_len (zs : List Int) : (bs zs).length = zs.length := by simp [bs]
theorem bs_at (zs : List Int) (j : Nat) (h : j < zs.length) : (bs zs)[j]? = some (.int .u8 (zs.getD j 0)) := by
  simp [bs, h]

theorem clone_nil (w : World) : Calls Try.prog 5 #[.slice none 0 0] w fun e w' => e = .returned (.slice none 0 0) ∧ w' = w := by
  have hnil := fun W => Lib.run_eql_slice_nil (P := Try.prog) W 22 5 none 0 0 0 0 Try.underlying22
  go_enter Try.func5, Try.ntmps5
  go_wp2
  go_ret
  exact ⟨rfl, rfl⟩

set_option maxHeartbeats 1000000 in
theorem clone_row (b off len cap : Nat) (zs : List Int) (hz : zs.length = len) (hl : len ≤ 1048576) (w : World) (hb : b < w.heap.size) (hc : ∀ j, j < len → w.cell? ⟨b, off + j, none⟩ = some (.int .u8 (zs.getD j 0))) :
    Calls Try.prog 5 #[.slice (some ⟨b, off, none⟩) len cap] w fun e w' => e = .returned (.slice (some ⟨w.heap.size, 0, none⟩) len len) ∧ w'.ownsRow w.heap.size 5 1 (.slice (some ⟨w.heap.size, 0, none⟩) len len) len (bs zs) ∧ Below w.heap.size w w' := by
  obtain ⟨i0, hi, hz0, hz1, hz2⟩ := info_parts info5
  have hnil := fun W => Lib.run_eql_slice_nil (P := Try.prog) W 22 5 (some ⟨b, off, none⟩) len cap 0 0 Try.underlying22
  have HC : Hid (∀ j, j < len → w.cell? ⟨b, off + j, none⟩ = some (.int .u8 (zs.getD j 0))) := hc
  clear hc
  go_enter Try.func5, Try.ntmps5
  go_wp2_with (at_make; refine wpList_make_full _ rfl (.tmp 8) (.tmp 8) 22 rfl w.heap.size 5 i0 (.int .u8 0) 1 Try.underlying22 hi hz0 hz1 .i64 .i64 _ _ len rfl rfl rfl rfl (by rw [hz2]; omega) (by unfold maxLen; omega) (Nat.le_refl _) ?_; intro w1 hown hgrow)
  have hb1 : Below w.heap.size w w1 := (Below.refl _ _).grown hgrow (Nat.le_refl _) (by simp)
  go_loopw [4] (fun i wr => ∃ (k : Nat) (ys : List Value), k ≤ len ∧ i = .int .i64 k ∧ wr.ownsRow w.heap.size 5 1 (.slice (some ⟨w.heap.size, 0, none⟩) len len) len ys ∧ Hid (∀ j, j < k → ys[j]? = some (.int .u8 (zs.getD j 0))) ∧ Below w.heap.size w wr) (fun i _ => len - (intOf i).toNat)
  case atStart => exact ⟨0, _, Nat.zero_le _, rfl, hown, fun j hj => absurd hj (by omega), hb1⟩
  case round =>
    clear hown hgrow hb1
    obtain ⟨k, ys, hk, rfl, hown, hys, hbel⟩ := hrel
    have hyl : ys.length = len := by have := hown.1; omega
    by_cases hlt : k < len
    · obtain ⟨z, hzk⟩ : ∃ z, zs.getD k 0 = z := ⟨_, rfl⟩
      have hcx : wr.cell? ⟨b, off + k, none⟩ = some (.int .u8 z) := hzk ▸ (hbel.cell (p := ⟨b, off + k, none⟩) hb).trans (HC.out k hlt)
      obtain ⟨u0, hu0⟩ : ∃ u0, ys[k]? = some u0 := ⟨ys[k]'(by omega), List.getElem?_eq_getElem (by omega)⟩
      have hcd : wr.cell? ⟨w.heap.size, k, none⟩ = some u0 := (hown.cellAt k (by omega)).trans hu0
      have hfd : wr.frozen? ⟨w.heap.size, k, none⟩ = false := hown.frozenAt k
      have hst := hown.stored k (.int .u8 z)
      have hys' : Hid (∀ j, j < k + 1 → (ys.set k (.int .u8 z))[j]? = some (.int .u8 (zs.getD j 0))) := by
        intro j hj
        by_cases hjk : j = k
        · subst hjk
          rw [List.getElem?_set_self (by omega), hzk]
        · rw [List.getElem?_set_ne (by omega)]
          exact hys.out j (by omega)
      have HST : Hid _ := hst
      clear hst hu0 hzk
      go_wp2
      go_roundw
      case rel => exact ⟨k + 1, _, by omega, by go_num, HST.out.1, hys', hbel.setCell (Nat.le_refl _) _⟩
      case measure => simp [intOf]; omega
    · have hkl : k = len := by omega
      have hfin : ys = bs zs := by
        apply List.ext_getElem?
        intro j
        by_cases hj : j < len
        · rw [hys.out j (by omega), bs_at zs j (by omega)]
        · rw [List.getElem?_eq_none (by omega), List.getElem?_eq_none (by rw [bs_len]; omega)]
      rw [hfin] at hown
      clear hfin hys hkl
      go_wp2
      go_ret
      exact ⟨rfl, hown, hbel⟩
set_option maxHeartbeats 1000000 in
theorem clone_empty (x : Addr) (cap : Nat) (w : World) :
    Calls Try.prog 5 #[.slice (some x) 0 cap] w fun e w' => e = .returned (.slice (some ⟨w.heap.size, 0, none⟩) 0 0) ∧ w'.ownsRow w.heap.size 5 1 (.slice (some ⟨w.heap.size, 0, none⟩) 0 0) 0 [] ∧ Below w.heap.size w w' := by
  obtain ⟨i0, hi, hz0, hz1, hz2⟩ := info_parts info5
  have hnil := fun W => Lib.run_eql_slice_nil (P := Try.prog) W 22 5 (some x) 0 cap 0 0 Try.underlying22
  go_enter Try.func5, Try.ntmps5
  go_wp2_with (at_make; refine wpList_make_full _ rfl (.tmp 8) (.tmp 8) 22 rfl w.heap.size 5 i0 (.int .u8 0) 1 Try.underlying22 hi hz0 hz1 .i64 .i64 _ _ 0 rfl rfl rfl rfl (by omega) (by unfold maxLen; omega) (Nat.le_refl _) ?_; intro w1 hown hgrow)
  have hb1 : Below w.heap.size w w1 := (Below.refl _ _).grown hgrow (Nat.le_refl _) (by simp)
  have hxs := hown.1
  have hown' : w1.ownsRow w.heap.size 5 1 (.slice (some ⟨w.heap.size, 0, none⟩) 0 0) 0 [] := by
    have e : (madeCells (Value.int .u8 0).cells (0 * 1)).toList = [] := List.eq_nil_of_length_eq_zero (by omega)
    rw [e] at hown
    exact hown
  clear hown hxs hgrow
  refine wp_loop_rounds 1 ?_
  rw [rounds_succ]
  go_wp2
  go_ret
  exact ⟨rfl, hown', hb1⟩

/-- WHAT A SLICE OF BYTES HOLDS: nil, or a row of which the elements are zs. -/
def Holds (w : World) (a : Option Addr) (len cap : Nat) (zs : List Int) : Prop :=
  zs.length = len ∧ ((a = none ∧ len = 0 ∧ cap = 0) ∨ ∃ x, a = some x ∧ ∀ j, j < len → w.cell? (x.add j) = some (.int .u8 (zs.getD j 0)))

theorem clone_any (a : Option Addr) (len cap : Nat) (zs : List Int) (w : World) (hl : len ≤ 1048576) (h : Holds w a len cap zs) :
    Calls Try.prog 5 #[.slice a len cap] w fun e w' => ∃ a' cap', e = .returned (.slice a' len cap') ∧ w'.ownsRow w.heap.size 5 1 (.slice a' len cap') len (bs zs) ∧ Below w.heap.size w w' := by
  obtain ⟨hz, h⟩ := h
  rcases h with ⟨rfl, rfl, rfl⟩ | ⟨x, rfl, hc⟩
  · obtain rfl : zs = [] := List.eq_nil_of_length_eq_zero hz
    refine (clone_nil w).mono ?_
    rintro e w' ⟨rfl, rfl⟩
    exact ⟨none, 0, rfl, World.ownsRow_nil _ _ _ _, Below.refl _ _⟩
  · by_cases h0 : len = 0
    · subst h0
      obtain rfl : zs = [] := List.eq_nil_of_length_eq_zero hz
      refine (clone_empty x cap w).mono ?_
      rintro e w' ⟨rfl, ho, hb⟩
      exact ⟨_, _, rfl, ho, hb⟩
    · obtain ⟨b, off, spot⟩ := x
      have hspot : spot = none := by simpa [Addr.add] using World.cell?_spot (hc 0 (by omega))
      subst hspot
      have hc' : ∀ j, j < len → w.cell? ⟨b, off + j, none⟩ = some (.int .u8 (zs.getD j 0)) := fun j hj => by rw [← Addr.add_lit]; exact hc j hj
      refine (clone_row b off len cap zs hz hl w (World.block_lt_of_cell? w _ (hc' 0 (by omega))) hc').mono ?_
      rintro e w' ⟨rfl, ho, hb⟩
      exact ⟨_, _, rfl, ho, hb⟩

/-- An owned row, as the copy asks it. -/
theorem holds_of_own {w : World} {base : Nat} {a : Option Addr} {len cap : Nat} {zs : List Int} (h : w.ownsRow base 5 1 (.slice a len cap) len (bs zs)) : Holds w a len cap zs := by
  have hz : zs.length = len := by have := h.1; rw [bs_len] at this; omega
  refine ⟨hz, ?_⟩
  rcases h.2 with ⟨hv, hn⟩ | ⟨g, cap', cur, hv, _⟩
  · simp at hv
    exact .inl ⟨hv.1, hv.2.1, hv.2.2⟩
  · simp at hv
    obtain ⟨rfl, rfl⟩ := hv
    refine .inr ⟨_, rfl, fun j hj => ?_⟩
    exact h.cells rfl j _ (bs_at zs j (by omega))
end Go.Proofs.Qxb6613125a
