/-
  decimal by its contract: digits alone, with a '-' before those of a negative number.
-/
import Derived.Test.Qxb6612923aNum2
import Derived.Laws.IdiomStrings
import Derived.Laws.Bits64
namespace Go.Proofs.Qxb6612923a
open Go.RowKit

/-- The array of twenty bytes at the first block that is new since w: from place i on digits stand there. -/
structure Digs (w wr : World) (i : Nat) : Prop where
  bel : Below w.heap.size w wr
  lt : w.heap.size < wr.heap.size
  free : ∀ j, wr.frozen? ⟨w.heap.size, j, none⟩ = false
  all : ∀ j, j < 20 → ∃ d : Int, wr.cell? ⟨w.heap.size, j, none⟩ = some (.int .u8 d) ∧ (i ≤ j → 48 ≤ d ∧ d ≤ 57)

theorem Digs.store {w wr : World} {i : Nat} (h : Digs w wr (i + 1)) (_hi : i < 20) (d : Int) (hd : 48 ≤ d ∧ d ≤ 57) : Digs w (wr.setCell ⟨w.heap.size, i, none⟩ (.int .u8 d)) i := by
  refine ⟨h.bel.setCell (Nat.le_refl _) _, by simpa using h.lt, by simpa using h.free, ?_⟩
  intro j hj
  by_cases hji : j = i
  · subst hji
    obtain ⟨d0, hc, _⟩ := h.all j hj
    exact ⟨d, World.cell?_setCell_same' wr _ _ (by simp [hc]), fun _ => hd⟩
  · obtain ⟨d0, hc, hr⟩ := h.all j hj
    refine ⟨d0, ?_, fun hle => hr (by omega)⟩
    exact (World.cell?_setCell_other wr _ _ _ (fun e => hji (by injection e with _ e2 _; exact e2.symm))).trans hc

theorem Digs.start (w : World) : Digs w (w.alloc (.cells #[.int .u8 0, .int .u8 0, .int .u8 0, .int .u8 0, .int .u8 0, .int .u8 0, .int .u8 0, .int .u8 0, .int .u8 0, .int .u8 0, .int .u8 0, .int .u8 0, .int .u8 0, .int .u8 0, .int .u8 0, .int .u8 0, .int .u8 0, .int .u8 0, .int .u8 0, .int .u8 0] 29)) 20 := by
  refine ⟨(Below.refl _ _).alloc (Nat.le_refl _) _, by simp, by simp [go_sem], ?_⟩
  intro j hj
  refine ⟨0, ?_, fun h => by omega⟩
  rw [World.cell?_alloc_new]
  have : j = 0 ∨ j = 1 ∨ j = 2 ∨ j = 3 ∨ j = 4 ∨ j = 5 ∨ j = 6 ∨ j = 7 ∨ j = 8 ∨ j = 9 ∨ j = 10 ∨ j = 11 ∨ j = 12 ∨ j = 13 ∨ j = 14 ∨ j = 15 ∨ j = 16 ∨ j = 17 ∨ j = 18 ∨ j = 19 := by omega
  rcases this with rfl | rfl | rfl | rfl | rfl | rfl | rfl | rfl | rfl | rfl | rfl | rfl | rfl | rfl | rfl | rfl | rfl | rfl | rfl | rfl <;> rfl

/-- The digits, as bytes: what 'string(b[i:])' is. -/
theorem Digs.bytes {w wr : World} {J : Nat} (h : Digs w wr J) (hJ : J < 20) : ∃ l : List UInt8, l.length = 20 - J ∧ allDig l = true ∧ ∀ j (hj : j < l.length), wr.cell? ((⟨w.heap.size, J, none⟩ : Addr).add j) = some (.int .u8 (l[j].toNat : Int)) := by
  have key : ∀ n, n ≤ 20 - J → ∃ l : List UInt8, l.length = n ∧ allDig l = true ∧ ∀ j (hj : j < l.length), wr.cell? ⟨w.heap.size, J + j, none⟩ = some (.int .u8 (l[j].toNat : Int)) := by
    intro n
    induction n with
    | zero => exact fun _ => ⟨[], rfl, rfl, fun j hj => absurd hj (by simp)⟩
    | succ n ih =>
      intro hn
      obtain ⟨l, hl, ha, hc⟩ := ih (by omega)
      obtain ⟨d, hd, hr⟩ := h.all (J + n) (by omega)
      obtain ⟨r0, r1⟩ := hr (by omega)
      have hu : (((UInt8.ofNat d.toNat).toNat : Nat) : Int) = d := by
        rw [UInt8.toNat_ofNat']
        have : d.toNat % 2 ^ 8 = d.toNat := Nat.mod_eq_of_lt (by omega)
        rw [this]
        omega
      refine ⟨l ++ [UInt8.ofNat d.toNat], by simp [hl], ?_, ?_⟩
      · rw [allDig_snoc, ha, hu, digB_yes r0 r1]; rfl
      · intro j hj
        by_cases hjl : j < l.length
        · rw [List.getElem_append_left hjl]
          exact hc j hjl
        · have hjn : j = n := by simp at hj; omega
          subst hjn
          rw [hd, List.getElem_append_right (by omega)]
          simp
          omega
  obtain ⟨l, hl, ha, hc⟩ := key (20 - J) (Nat.le_refl _)
  refine ⟨l, hl, ha, fun j hj => ?_⟩
  rw [Addr.add_lit]
  exact hc j hj

theorem pow_step {U J : Nat} (h : U < 10 ^ (J + 1)) : U / 10 < 10 ^ J := by
  rw [Nat.pow_succ] at h
  omega
theorem pow_some {U J : Nat} (h : U < 10 ^ J) (hU : 0 < U) : ∃ J', J = J' + 1 := by
  cases J with
  | zero => simp at h; omega
  | succ J => exact ⟨J, rfl⟩

theorem arr29 : Try.prog.underlying 29 = some (.array (Try.prog.arrayLen 29) (Try.prog.elem 29)) := by kernel_rfl
theorem len29 : Try.prog.arrayLen 29 = 20 := by kernel_rfl
theorem elem29 (W : World) : (sizeOf (Try.prog.elem 29)).run Try.prog W = .ok 1 W := by kernel_rfl
/-- 'b[i:]' of the array of twenty bytes. -/
theorem run_tail (B J : Nat) (hJ : J < 20) (W : World) : (Instr.sliceAt 29 (.pointer (some ⟨B, 0, none⟩)) (some (.int .i64 (J : Int))) none none).run Try.prog W = .ok (.slice (some ⟨B, J, none⟩) (20 - J) (20 - J)) W := by
  rw [run_sliceAt_array_l W 29 _ arr29 .i64 (J : Int) (by omega) (by rw [len29]; omega), elem29, len29]
  have hne : ¬ 20 = J := by omega
  simp [Result.andThen, slicedAt, Addr.add, hne]
  omega
/-- 'string(b[i:])': the digits. -/
theorem run_text (B J : Nat) (l : List UInt8) (hl : l.length = 20 - J) (W : World) (hc : ∀ j (hj : j < l.length), W.cell? ((⟨B, J, none⟩ : Addr).add j) = some (.int .u8 (l[j].toNat : Int))) :
    (convert 30 9 (.slice (some ⟨B, J, none⟩) (20 - J) (20 - J))).run Try.prog W = .ok (.string ⟨l.toArray⟩) W := by
  have := run_convert_bytes_back (P := Try.prog) W 30 9 5 ⟨B, J, none⟩ (20 - J) l Try.underlying30 Try.underlying5 Try.underlying9 hc
  rw [hl] at this
  exact this

set_option maxHeartbeats 1000000 in
theorem decimal_pos (n : Int) (h0 : 0 ≤ n) (h1 : n ≤ 9223372036854775807) (w : World) :
    Calls Try.prog 6 #[.int .i64 n] w fun e w' => ∃ l : List UInt8, e = .returned (.string ⟨l.toArray⟩) ∧ l ≠ [] ∧ l.length ≤ 21 ∧ allDig l = true ∧ Below w.heap.size w w' := by
  obtain ⟨U0, hU0⟩ : ∃ U0 : Nat, n = (U0 : Int) := ⟨n.toNat, by omega⟩
  subst hU0
  have hp : U0 < 10 ^ (19 + 1) := by have : U0 ≤ 9223372036854775808 := by omega
                                     exact Nat.lt_of_le_of_lt this (by decide)
  have HP : Hid (U0 < 10 ^ (19 + 1)) := hp
  clear hp
  go_enter Try.func6, Try.ntmps6
  go_wp2_with fail
  go_loopw [3, 6] (fun u i wr => ∃ U J : Nat, u = .int .u64 U ∧ i = .int .i64 ((J : Int) + 1) ∧ J < 20 ∧ U ≤ 9223372036854775808 ∧ Hid (U < 10 ^ (J + 1)) ∧ Digs w wr (J + 1)) (fun _ i _ => (intOf i).toNat)
  case atStart => exact ⟨U0, 19, rfl, rfl, by omega, by omega, HP, Digs.start w⟩
  case round =>
    obtain ⟨U, J, rfl, rfl, hJ, hU1, hU, hD⟩ := hrel
    obtain ⟨d0, hd0, _⟩ := hD.all J hJ
    have hf0 := hD.free J
    have hsl := run_tail w.heap.size J hJ
    by_cases hz : (U : Int) / 10 = 0
    · obtain ⟨l, hl, ha, hc⟩ := (hD.store hJ (48 + (U : Int) % 10) (by omega)).bytes hJ
      have htx := run_text w.heap.size J l hl _ hc
      have HA : Hid (allDig l = true) := ha
      have HL : Hid (l.length = 20 - J) := hl
      clear hc hl ha
      go_wp2
      go_ret
      have hl := HL.out
      exact ⟨l, rfl, by intro h; rw [h] at hl; simp at hl; omega, by omega, HA.out, hD.bel.setCell (Nat.le_refl _) _⟩
    · go_wp2
      have hU' := pow_step hU.out
      obtain ⟨J', rfl⟩ := pow_some hU' (by omega)
      go_roundw
      case rel => exact ⟨U / 10, J', by go_num, by go_num, by omega, by omega, hU', hD.store hJ _ (by omega)⟩
      case measure => simp [intOf]; omega

theorem neg_u64 (n : Int) (h0 : -9223372036854775808 ≤ n) (h1 : n < 0) : IntKind.u64.wrap (-IntKind.u64.wrap n) = -n := by
  rw [IntKind.wrap_u64, IntKind.wrap_u64]
  omega
theorem run_minus (l : List UInt8) (hl : l.length ≤ 20) (W : World) : (Op.stringOp .add ⟨#[45]⟩ ⟨l.toArray⟩).run Try.prog W = .ok (.string ⟨(45 :: l).toArray⟩) W := by
  exact run_string_add_lists W [45] l (by simp) (by omega)
theorem minus_no (l : List UInt8) : allDig (45 :: l) = false := by
  show (digB ((45 : UInt8).toNat : Int) && allDig l) = false
  rw [digB_no (by decide)]
  rfl

set_option maxHeartbeats 1000000 in
theorem decimal_neg (n : Int) (h0 : -9223372036854775808 ≤ n) (h1 : n < 0) (w : World) :
    Calls Try.prog 6 #[.int .i64 n] w fun e w' => ∃ l : List UInt8, e = .returned (.string ⟨l.toArray⟩) ∧ l ≠ [] ∧ l.length ≤ 21 ∧ allDig l = false ∧ Below w.heap.size w w' := by
  obtain ⟨U0, hU0⟩ : ∃ U0 : Nat, -n = (U0 : Int) := ⟨(-n).toNat, by omega⟩
  have hneg := (neg_u64 n h0 h1).trans hU0
  have hp : U0 < 10 ^ (19 + 1) := by have : U0 ≤ 9223372036854775808 := by omega
                                     exact Nat.lt_of_le_of_lt this (by decide)
  have HP : Hid (U0 < 10 ^ (19 + 1)) := hp
  clear hp
  go_enter Try.func6, Try.ntmps6
  go_wp2_with fail
  go_loopw [3, 6] (fun u i wr => ∃ U J : Nat, u = .int .u64 U ∧ i = .int .i64 ((J : Int) + 1) ∧ J < 20 ∧ U ≤ 9223372036854775808 ∧ Hid (U < 10 ^ (J + 1)) ∧ Digs w wr (J + 1)) (fun _ i _ => (intOf i).toNat)
  case atStart => exact ⟨U0, 19, by first | rfl | rw [hneg], rfl, by omega, by omega, HP, Digs.start w⟩
  case round =>
    obtain ⟨U, J, rfl, rfl, hJ, hU1, hU, hD⟩ := hrel
    obtain ⟨d0, hd0, _⟩ := hD.all J hJ
    have hf0 := hD.free J
    have hsl := run_tail w.heap.size J hJ
    by_cases hz : (U : Int) / 10 = 0
    · obtain ⟨l, hl, ha, hc⟩ := (hD.store hJ (48 + (U : Int) % 10) (by omega)).bytes hJ
      have hadd := fun W => run_minus l (by omega) W
      have htx := run_text w.heap.size J l hl _ hc
      have HL : Hid (l.length = 20 - J) := hl
      clear hc hl ha
      go_wp2
      go_ret
      have hl := HL.out
      exact ⟨45 :: l, rfl, by simp, by simp; omega, minus_no l, hD.bel.setCell (Nat.le_refl _) _⟩
    · go_wp2
      have hU' := pow_step hU.out
      obtain ⟨J', rfl⟩ := pow_some hU' (by omega)
      go_roundw
      case rel => exact ⟨U / 10, J', by go_num, by go_num, by omega, by omega, hU', hD.store hJ _ (by omega)⟩
      case measure => simp [intOf]; omega


theorem decimal_any (n : Int) (h0 : -9223372036854775808 ≤ n) (h1 : n ≤ 9223372036854775807) (w : World) :
    Calls Try.prog 6 #[.int .i64 n] w fun e w' => ∃ l : List UInt8, e = .returned (.string ⟨l.toArray⟩) ∧ l ≠ [] ∧ l.length ≤ 21 ∧ allDig l = decide (0 ≤ n) ∧ Below w.heap.size w w' := by
  by_cases hn : n < 0
  · have e : decide (0 ≤ n) = false := by simp; omega
    rw [e]
    exact decimal_neg n h0 hn w
  · have e : decide (0 ≤ n) = true := by simp; omega
    rw [e]
    exact decimal_pos n (by omega) h1 w
end Go.Proofs.Qxb6612923a
