/-
  THE LAW's WALK: FnWriterNullArrayAppendsFrames.
-/
import Derived.Test.Qxb6613125aWriter
namespace Go.Proofs.Qxb6613125a
open Go.RowKit

theorem sl22 : Try.prog.underlying 22 = some (.slice (Try.prog.elem 22)) := by kernel_rfl
theorem elem22 (W : World) : (sizeOf (Try.prog.elem 22)).run Try.prog W = .ok 1 W := by kernel_rfl
theorem idx (g n cap j : Nat) (hj : j < n) (W : World) : (Instr.indexAt 22 (.slice (some ⟨g, 0, none⟩) n cap) (.int .i64 (j : Int))).run Try.prog W = .ok (.pointer (some ⟨g, j, none⟩)) W := by
  rw [run_indexAt_slice W 22 _ n cap .i64 (j : Int) sl22, elem22, if_pos (by omega)]
  simp [Result.andThen, Addr.add_lit]

/-- A place of an owned row: its address, as the walk reckons it, and what lies there. -/
theorem rowAt {W : World} {base : Nat} {a : Option Addr} {n cap : Nat} {zs : List Int} (h : W.ownsRow base 5 1 (.slice a n cap) n (bs zs)) (j : Nat) (hj : j < n) :
    ∃ g, (∀ W' : World, (Instr.indexAt 22 (.slice a n cap) (.int .i64 (j : Int))).run Try.prog W' = .ok (.pointer (some ⟨g, j, none⟩)) W') ∧ W.cell? ⟨g, j, none⟩ = some (.int .u8 (zs.getD j 0)) := by
  have hz : zs.length = n := by have := h.1; rw [bs_len] at this; omega
  obtain ⟨g, cap', hv, _, _⟩ := h.form (by omega)
  simp at hv
  obtain ⟨rfl, rfl⟩ := hv
  refine ⟨g, fun W' => idx g n cap j hj W', ?_⟩
  rw [h.cellAt j (by omega)]
  exact bs_at zs j (by omega)

/-- The state of the writer behind m calls. -/
def St (W1 wr : World) (p : Nat) (off : Int) (L m : Nat) (zs : List Int) : Prop :=
  W1.heap.size ≤ p ∧ ∃ a cap, Wr wr p (.slice a (L + 5 * m) cap) off ∧ wr.ownsRow W1.heap.size 5 1 (.slice a (L + 5 * m) cap) (L + 5 * m) (bs (zs ++ frames m)) ∧ Below W1.heap.size W1 wr
theorem St.drew {W1 wr : World} {p : Nat} {off : Int} {L m : Nat} {zs : List Int} (h : St W1 wr p off L m zs) : St W1 wr.drew p off L m zs := by
  obtain ⟨h0, a, cap, h1, h2, h3⟩ := h
  exact ⟨h0, a, cap, h1, h2.drew, h3.drew⟩
theorem St.write {W1 wr : World} {p : Nat} {off : Int} {L m : Nat} {zs : List Int} (h : St W1 wr p off L m zs) (hb : L + 5 * m ≤ 2000000) :
    Calls Try.prog 7 #[.pointer (some ⟨p, 0, none⟩)] wr fun e w' => e = .returned (.tuple #[]) ∧ St W1 w' p off L (m + 1) zs := by
  obtain ⟨h0, a, cap, h1, h2, h3⟩ := h
  refine (write_any p _ off W1.heap.size (L + 5 * m) (zs ++ frames m) hb wr h1 h2 h0 ⟨a, cap, rfl⟩).mono ?_
  rintro e w' ⟨rfl, g, cap', k1, k2, k3⟩
  refine ⟨rfl, h0, some ⟨g, 0, none⟩, cap', ?_, ?_, h3.trans (k3.mono (Nat.le_refl _))⟩
  · have e : L + 5 * (m + 1) = L + 5 * m + 5 := by omega
    rw [e]; exact k1
  · have e : L + 5 * (m + 1) = L + 5 * m + 5 := by omega
    rw [e, frames, ← List.append_assoc]; exact k2
theorem St.len {W1 wr : World} {p : Nat} {off : Int} {L m : Nat} {zs : List Int} (h : St W1 wr p off L m zs) (hb : L + 5 * m ≤ 2000000) (h0 : 0 ≤ off) (h1 : off ≤ 2000000) :
    Calls Try.prog 8 #[.pointer (some ⟨p, 0, none⟩)] wr fun e w' => e = .returned (.int .i64 ((L : Int) + 5 * (m : Int) - off)) ∧ w' = wr.drew := by
  obtain ⟨_, a, cap, k1, _, _⟩ := h
  have := len_any p a (L + 5 * m) cap off h0 h1 hb wr k1
  have e : (((L + 5 * m : Nat) : Int) - off) = (L : Int) + 5 * (m : Int) - off := by omega
  rw [e] at this
  exact this

/-- What the two last loops read. -/
def Fin (w W1 wr : World) (ab ag : Option Addr) (L N cb cg : Nat) (zs ys : List Int) : Prop :=
  wr.ownsRow w.heap.size 5 1 (.slice ab L cb) L (bs zs) ∧ wr.ownsRow W1.heap.size 5 1 (.slice ag N cg) N (bs ys) ∧ Below w.heap.size w wr
theorem Fin.drewN {w W1 wr : World} {ab ag : Option Addr} {L N cb cg : Nat} {zs ys : List Int} (h : Fin w W1 wr ab ag L N cb cg zs ys) (n : Nat) : Fin w W1 (wr.drewN n) ab ag L N cb cg zs ys :=
  ⟨h.1, h.2.1, below_drewN h.2.2 n⟩
theorem fin_of {w W1 wr : World} {p : Nat} {off : Int} {L m cb : Nat} {ab : Option Addr} {zs : List Int} (hvb : W1.ownsRow w.heap.size 5 1 (.slice ab L cb) L (bs zs)) (hb1 : Below w.heap.size w W1) (h : St W1 wr p off L m zs) :
    ∃ ag cg, Wr wr p (.slice ag (L + 5 * m) cg) off ∧ Fin w W1 wr ab ag L (L + 5 * m) cb cg zs (zs ++ frames m) := by
  obtain ⟨_, a, cap, h1, h2, h3⟩ := h
  refine ⟨a, cap, h1, ?_, h2, hb1.trans (h3.mono hb1.size)⟩
  refine hvb.kept (row := none) ⟨h3.os, h3.tape, h3.output, h3.size, fun k hk _ => h3.block k hk⟩ ?_
  cases hv : (Value.slice ab L cb).ownBlock <;> simp

theorem cat_lo (zs ys : List Int) (j : Nat) (h : j < zs.length) : (zs ++ ys).getD j 0 = zs.getD j 0 := by
  simp only [List.getD_eq_getElem?_getD]
  rw [List.getElem?_append_left h]
theorem cat_hi (zs ys : List Int) (j : Nat) : (zs ++ ys).getD (zs.length + j) 0 = ys.getD j 0 := by
  simp only [List.getD_eq_getElem?_getD]
  rw [List.getElem?_append_right (by omega)]
  simp

set_option maxHeartbeats 1000000 in
theorem law_in (a : Option Addr) (L cap K : Nat) (off : Int) (zs : List Int) (hL : L ≤ 1048576) (hK : K ≤ 4096) (ho0 : 0 ≤ off) (ho1 : off ≤ (L : Int)) (w : World) (hh : Holds w a L cap zs) :
    Calls Try.prog 3 #[.slice a L cap, .int .i64 off, .int .i64 (K : Int)] w fun e w' => e = .returned (.bool true) ∧ Below w.heap.size w w' := by
  have hz : zs.length = L := hh.1
  go_enter Try.func3, Try.ntmps3
  go_wp2_with fail
  refine (fits_any a L cap off K _ hL).mono ?_
  rintro e w' ⟨rfl, rfl⟩
  go_wp2_with fail
  refine (clone_any a L cap zs _ hL hh).mono ?_
  rintro e W1 ⟨ab, cb, rfl, hvb, hb1⟩
  go_wp2_with fail
  refine (clone_any ab L cb zs _ hL (holds_of_own hvb)).mono ?_
  rintro e W2 ⟨av, cv, rfl, hv, hb2⟩
  go_wp2_with fail
  refine (new_any av L cv off _).mono ?_
  rintro e w3 ⟨rfl, rfl⟩
  have hS0 : St W1 (W2.alloc (.cells #[.slice av L cv, .int .i64 off] 32)) W2.heap.size off L 0 zs := by
    refine ⟨hb2.size, av, cv, ?_, ?_, hb2.alloc hb2.size _⟩
    · exact heap_alloc_new W2 _
    · have e : zs ++ frames 0 = zs := by simp [frames]
      rw [e]
      exact hv.alloc _
  clear hv hh
  go_wp2_with fail
  go_loopw [8] (fun i wr => ∃ m : Nat, m ≤ K ∧ i = .int .i64 ((m : Int) + 1) ∧ St W1 wr W2.heap.size off L m zs) (fun i _ => K + 1 - (intOf i).toNat)
  case atStart => exact ⟨0, Nat.zero_le _, rfl, hS0⟩
  case round =>
    clear hS0
    obtain ⟨m, hm, rfl, hS⟩ := hrel
    by_cases hlt : m < K
    · go_wp2_with fail
      refine (hS.write (by omega)).mono ?_
      rintro e w4 ⟨rfl, hS1⟩
      go_wp2_with fail
      refine (hS1.len (by omega) ho0 (by omega)).mono ?_
      rintro e w5 ⟨rfl, rfl⟩
      go_wp2
      go_roundw
      case rel => exact ⟨m + 1, by omega, by go_num, hS1.drew⟩
      case measure => simp [intOf]; omega
    · obtain rfl : m = K := by omega
      obtain ⟨ag, cg, hp, hF⟩ := fin_of hvb hb1 hS
      clear hS hvb hb1
      go_wp2_with fail
      refine (buf_any _ _ off _ hp).mono ?_
      rintro e w6 ⟨rfl, rfl⟩
      go_wp2_with fail
      refine (off_any _ _ off _ hp).mono ?_
      rintro e w6 ⟨rfl, rfl⟩
      clear hp
      go_wp2
      go_loopw [10] (fun i wr => ∃ j : Nat, j ≤ L ∧ i = .int .i64 j ∧ Fin w' W1 wr ab ag L (L + 5 * m) cb cg zs (zs ++ frames m)) (fun i _ => L - (intOf i).toNat)
      case atStart => exact ⟨0, Nat.zero_le _, rfl, hF⟩
      case round =>
        clear hF
        obtain ⟨j, hj, rfl, hF⟩ := hrel
        by_cases hjl : j < L
        · obtain ⟨gb, ib, xb⟩ := rowAt hF.1 j hjl
          obtain ⟨gg, ig, xg⟩ := rowAt hF.2.1 j (by omega)
          rw [cat_lo zs _ j (by omega)] at xg
          generalize zs.getD j 0 = z at xb xg
          go_wp2
          go_region
          go_wp2
          go_roundw
          case rel => exact ⟨j + 1, by omega, by go_num, hF.drewN 1⟩
          case measure => simp [intOf]; omega
        · go_wp2
          go_loopw [11] (fun i wr => ∃ j : Nat, j ≤ 5 * m ∧ i = .int .i64 j ∧ Fin w' W1 wr ab ag L (L + 5 * m) cb cg zs (zs ++ frames m)) (fun i _ => 5 * m - (intOf i).toNat)
          case atStart => exact ⟨0, Nat.zero_le _, rfl, hF⟩
          case round =>
            clear hF
            obtain ⟨t, ht, rfl, hF⟩ := hrel
            by_cases htl : t < 5 * m
            · obtain ⟨gg, ig, xg⟩ := rowAt hF.2.1 (L + t) (by omega)
              have ec := cat_hi zs (frames m) t
              rw [hz] at ec
              rw [ec, frames_at m t htl] at xg
              have ei : ((L + t : Nat) : Int) = (L : Int) + (t : Int) := by omega
              rw [ei] at ig
              have hB := fun W => byte_any (t % 5) (by omega) W
              have em : ((t % 5 : Nat) : Int) = (t : Int) % 5 := by omega
              rw [em] at hB
              generalize fb (t % 5) = z at xg hB
              have HB : Hid (∀ W, Calls Try.prog 11 #[.int .i64 ((t : Int) % 5)] W fun e w' => e = .returned (.int .u8 z) ∧ w' = W) := hB
              clear ec ei em hB
              go_wp2
              go_quiet ((go_at_call 11; exact Calls.quiet_of_same (HB.out _)))
              go_wp2
              go_roundw
              case rel => exact ⟨t + 1, by omega, by go_num, hF.drewN _⟩
              case measure => simp [intOf]; omega
            · go_wp2
              go_ret
              exact ⟨rfl, hF.2.2⟩
set_option maxHeartbeats 400000 in
theorem law_any (a : Option Addr) (L cap : Nat) (off k : Int) (zs : List Int) (hm : L ≤ maxLen) (w : World) (hh : Holds w a L cap zs) :
    Calls Try.prog 3 #[.slice a L cap, .int .i64 off, .int .i64 k] w fun e w' => e = .returned (.bool true) ∧ Below w.heap.size w w' := by
  by_cases hL : L ≤ 1048576
  · by_cases ho0 : off < 0
    · clear hh
      go_enter Try.func3, Try.ntmps3
      go_wp2_with fail
      refine (fits_any a L cap off k _ hL).mono ?_
      rintro e w' ⟨rfl, rfl⟩
      go_wp2
      go_ret
      exact ⟨rfl, Below.refl _ _⟩
    · by_cases ho1 : (L : Int) < off
      · clear hh
        go_enter Try.func3, Try.ntmps3
        go_wp2_with fail
        refine (fits_any a L cap off k _ hL).mono ?_
        rintro e w' ⟨rfl, rfl⟩
        go_wp2
        go_ret
        exact ⟨rfl, Below.refl _ _⟩
      · by_cases hk0 : k < 0
        · clear hh
          go_enter Try.func3, Try.ntmps3
          go_wp2_with fail
          refine (fits_any a L cap off k _ hL).mono ?_
          rintro e w' ⟨rfl, rfl⟩
          go_wp2
          go_ret
          exact ⟨rfl, Below.refl _ _⟩
        · by_cases hk1 : 4096 < k
          · clear hh
            go_enter Try.func3, Try.ntmps3
            go_wp2_with fail
            refine (fits_any a L cap off k _ hL).mono ?_
            rintro e w' ⟨rfl, rfl⟩
            go_wp2
            go_ret
            exact ⟨rfl, Below.refl _ _⟩
          · obtain ⟨K, rfl⟩ : ∃ K : Nat, k = (K : Int) := ⟨k.toNat, by omega⟩
            exact law_in a L cap K off zs hL (by omega) (by omega) (by omega) w hh
  · clear hh
    go_enter Try.func3, Try.ntmps3
    go_wp2_with fail
    refine (fitsNot_any a L cap off k _ (by omega) hm).mono ?_
    rintro e w' ⟨rfl, rfl⟩
    go_wp2
    go_ret
    exact ⟨rfl, Below.refl _ _⟩
end Go.Proofs.Qxb6613125a
