/-
  The Writer: WriteNullArray, Len, and the two fields' readers, each by its contract.
-/
import Derived.Test.Qxb6613125aClone
import Derived.RegionTactic
namespace Go.Proofs.Qxb6613125a
open Go.RowKit

/-- The null array's frame. -/
def fr : List Int := [42, 45, 49, 13, 10]
theorem strCells_fr : Lib.strCells ⟨#[42, 45, 49, 13, 10]⟩ = bs fr := rfl
theorem bs_append (xs ys : List Int) : bs (xs ++ ys) = bs xs ++ bs ys := by simp [bs]

/-- The null array's frame appended onto an owned row. -/
theorem wpList_frame {ops : Array Oper} {rest : List Oper} {o : Oper} {a : Act} {Q : Exit → Act → World → Prop} (w : World) (hgd : o.guard = none) (sl x : Operand)
    (ho : o.op = .call { callee := .builtin .append, args := #[sl, x], argTypes := #[22, 9] })
    (base : Nat) (v : Value) (n : Nat) (ys : List Int) (hs : a.eval sl = v) (hown : w.ownsRow base 5 1 v n (bs ys)) (hx : a.eval x = .string ⟨#[42, 45, 49, 13, 10]⟩)
    (hn : n ≤ 2000000) (hbase : base ≤ w.heap.size)
    (h : ∀ g cap w', w'.ownsRow base 5 1 (.slice (some ⟨g, 0, none⟩) (n + 5) cap) (n + 5) (bs (ys ++ fr)) → w.grownBy w' v.ownBlock → wpList Try.prog ops Q rest (a.put o.dst (.slice (some ⟨g, 0, none⟩) (n + 5) cap)) w') : wpList Try.prog ops Q (o :: rest) a w := by
  obtain ⟨i0, hi, hz0, hz1, hz2⟩ := info_parts info5
  have h5 : (⟨#[42, 45, 49, 13, 10]⟩ : ByteArray).size = 5 := rfl
  refine Lib.wpList_append_own_string w hgd sl x 22 9 ho base 5 i0 Try.underlying22 Try.underlying9 hi hz0 hz1 hz2 v n (bs ys) hs hown ⟨#[42, 45, 49, 13, 10]⟩ hx (by rw [h5]; unfold maxLen; omega) (by rw [h5]; omega) hbase ?_
  intro v' w' hown' hgrow _
  rw [h5, strCells_fr, ← bs_append] at hown'
  obtain ⟨g, cap, hv, _, _⟩ := hown'.form (by omega)
  subst hv
  exact h g cap w' hown' hgrow

/-- The writer's own block. -/
def Wr (w : World) (p : Nat) (v : Value) (off : Int) : Prop := w.heap[p]? = some (.cells #[v, .int .i64 off] 32 (0, 0))
theorem Wr.buf {w : World} {p : Nat} {v : Value} {off : Int} (h : Wr w p v off) : w.cell? ⟨p, 0, none⟩ = some v := by unfold Wr at h; simp [World.cell?, h]
theorem Wr.off {w : World} {p : Nat} {v : Value} {off : Int} (h : Wr w p v off) : w.cell? ⟨p, 1, none⟩ = some (.int .i64 off) := by unfold Wr at h; simp [World.cell?, h]
theorem Wr.free {w : World} {p : Nat} {v : Value} {off : Int} (h : Wr w p v off) (j : Nat) : w.frozen? ⟨p, j, none⟩ = false := by unfold Wr at h; simp [World.frozen?, h]
theorem Wr.lt {w : World} {p : Nat} {v : Value} {off : Int} (h : Wr w p v off) : p < w.heap.size := lt_of_block h
theorem Wr.store {w : World} {p : Nat} {v : Value} {off : Int} (h : Wr w p v off) (u : Value) : Wr (w.setCell ⟨p, 0, none⟩ u) p u off := by
  unfold Wr at h ⊢
  rw [heap_setCell_same w p 0 _ 32 u h]
  rfl
/-- The writer's block is no row of bytes. -/
theorem Wr.apart {w : World} {p : Nat} {v u : Value} {off : Int} {base n : Nat} {xs : List Value} (h : Wr w p v off) (hown : w.ownsRow base 5 1 u n xs) : u.ownBlock ≠ some p := by
  intro e
  rcases hown.2 with ⟨rfl, _⟩ | ⟨g, cap, cur, rfl, _, hg, _⟩
  · simp [Value.ownBlock] at e
  · simp [Value.ownBlock] at e
    subst e
    unfold Wr at h
    rw [h] at hg
    simp at hg
theorem Wr.grown {w w' : World} {p : Nat} {v : Value} {off : Int} {row : Option Nat} (h : Wr w p v off) (hg : w.grownBy w' row) (hne : row ≠ some p) : Wr w' p v off := by
  have := hg.block p h.lt (fun e => hne e.symm)
  unfold Wr at h ⊢
  rw [this]
  exact h

set_option maxHeartbeats 400000 in
theorem write_any (p : Nat) (v : Value) (off : Int) (base n : Nat) (ys : List Int) (hn : n ≤ 2000000) (w : World) (hp : Wr w p v off) (hown : w.ownsRow base 5 1 v n (bs ys)) (hbp : base ≤ p) (hform : ∃ a cap, v = .slice a n cap) :
    Calls Try.prog 7 #[.pointer (some ⟨p, 0, none⟩)] w fun e w' => e = .returned (.tuple #[]) ∧ ∃ g cap, Wr w' p (.slice (some ⟨g, 0, none⟩) (n + 5) cap) off ∧ w'.ownsRow base 5 1 (.slice (some ⟨g, 0, none⟩) (n + 5) cap) (n + 5) (bs (ys ++ fr)) ∧ Below base w w' := by
  obtain ⟨a, cap, rfl⟩ := hform
  have hc0 := hp.buf
  have hlt := hp.lt
  have hne := hp.apart hown
  go_enter Try.func7, Try.ntmps7
  go_wp2_with (at_builtin; refine wpList_frame _ rfl (.tmp 6) _ rfl base _ n ys rfl hown rfl hn (by omega) ?_; intro g cap1 w1 hown1 hgrow; have hp1 := hp.grown hgrow hne; have hc1 := hp1.buf; have hf1 := hp1.free 0)
  go_end0
  have hb : Below base w w1 := (Below.refl _ _).grown hgrow (by omega) (fun k hk => (hown.lt k hk).1)
  exact ⟨rfl, g, cap1, hp1.store _, ownsRow_setCell_other hown1 (by have := hp1.apart hown1; exact this) _, hb.setCell hbp _⟩

set_option maxHeartbeats 400000 in
theorem len_any (p : Nat) (a : Option Addr) (n cap : Nat) (off : Int) (h0 : 0 ≤ off) (h1 : off ≤ 2000000) (hn : n ≤ 2000000) (w : World) (hp : Wr w p (.slice a n cap) off) :
    Calls Try.prog 8 #[.pointer (some ⟨p, 0, none⟩)] w fun e w' => e = .returned (.int .i64 ((n : Int) - off)) ∧ w' = w.drew := by
  have hc0 := hp.buf
  have hc1 := hp.off
  go_enter Try.func8, Try.ntmps8
  go_wp2
  go_region
  go_wp2
  go_ret
  exact ⟨rfl, rfl⟩
theorem buf_any (p : Nat) (v : Value) (off : Int) (w : World) (hp : Wr w p v off) :
    Calls Try.prog 9 #[.pointer (some ⟨p, 0, none⟩)] w fun e w' => e = .returned v ∧ w' = w := by
  have hc0 := hp.buf
  go_enter Try.func9, Try.ntmps9
  go_wp2
  go_ret
  exact ⟨rfl, rfl⟩
theorem off_any (p : Nat) (v : Value) (off : Int) (w : World) (hp : Wr w p v off) :
    Calls Try.prog 10 #[.pointer (some ⟨p, 0, none⟩)] w fun e w' => e = .returned (.int .i64 off) ∧ w' = w := by
  have hc0 := hp.off
  go_enter Try.func10, Try.ntmps10
  go_wp2
  go_ret
  exact ⟨rfl, rfl⟩
theorem new_any (a : Option Addr) (n cap : Nat) (off : Int) (w : World) :
    Calls Try.prog 6 #[.slice a n cap, .int .i64 off] w fun e w' => e = .returned (.pointer (some ⟨w.heap.size, 0, none⟩)) ∧ w' = w.alloc (.cells #[.slice a n cap, .int .i64 off] 32) := by
  go_enter Try.func6, Try.ntmps6
  go_wp2
  go_ret
  exact ⟨rfl, rfl⟩

/-- Byte j of the frame. -/
def fb (j : Nat) : Int := fr.getD j 0
theorem byte_any (j : Nat) (hj : j < 5) (w : World) : Calls Try.prog 11 #[.int .i64 (j : Int)] w fun e w' => e = .returned (.int .u8 (fb j)) ∧ w' = w := by
  have : j = 0 ∨ j = 1 ∨ j = 2 ∨ j = 3 ∨ j = 4 := by omega
  rcases this with rfl | rfl | rfl | rfl | rfl
  all_goals
    go_enter Try.func11, Try.ntmps11
    go_wp2
    go_ret
    exact ⟨rfl, rfl⟩

theorem fits_any (a : Option Addr) (len cap : Nat) (off k : Int) (w : World) (hl : len ≤ 1048576) :
    Calls Try.prog 4 #[.slice a len cap, .int .i64 off, .int .i64 k] w fun e w' => e = .returned (.bool true) ∧ w' = w := by
  go_enter Try.func4, Try.ntmps4
  go_wp2
  go_ret
  exact ⟨rfl, rfl⟩
theorem fitsNot_any (a : Option Addr) (len cap : Nat) (off k : Int) (w : World) (hl : 1048576 < len) (hm : len ≤ maxLen) :
    Calls Try.prog 4 #[.slice a len cap, .int .i64 off, .int .i64 k] w fun e w' => e = .returned (.bool false) ∧ w' = w := by
  unfold maxLen at hm
  go_enter Try.func4, Try.ntmps4
  go_wp2
  go_ret
  exact ⟨rfl, rfl⟩

/-- m frames. -/
def frames : Nat → List Int
  | 0 => []
  | m + 1 => frames m ++ fr
theorem frames_len : ∀ m, (frames m).length = 5 * m
  | 0 => rfl
  | m + 1 => by rw [frames, List.length_append, frames_len m]; simp [fr]; omega
theorem frames_at : ∀ m j, j < 5 * m → (frames m).getD j 0 = fb (j % 5)
  | 0, j, h => by omega
  | m + 1, j, h => by
    rw [frames]
    by_cases hj : j < 5 * m
    · rw [← frames_at m j hj]
      simp only [List.getD_eq_getElem?_getD]
      rw [List.getElem?_append_left (by rw [frames_len]; exact hj)]
    · have e : j % 5 = j - 5 * m := by omega
      rw [e]
      simp only [List.getD_eq_getElem?_getD, fb]
      rw [List.getElem?_append_right (by rw [frames_len]; omega), frames_len]
end Go.Proofs.Qxb6613125a
