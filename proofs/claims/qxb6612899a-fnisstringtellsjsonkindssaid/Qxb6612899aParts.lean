/-
  ROWS OF BYTES THAT THE CALL MAKES: what is owned, and the laws of 'make' and 'append' in one short form.
-/
import Derived.Test.Qxb6612899aRows
import Derived.WalkKit
import Derived.WalkSpells
import Derived.WalkLawsBesides
import Derived.RowKit3
import Derived.Outline
import Derived.Deep.AppendLies
namespace Go.Proofs.Qxb6612899a
open Go.RowKit

theorem info5 : (Try.prog.info? 5).map (fun i => (i.zero, i.size, i.bytes)) = some (some (.int .u8 0), 1, 1) := by kernel_rfl

/-- wr is w, with a row of bytes xs laid since: the slice at block g, of n elements. -/
structure Own (w wr : World) (g n cap : Nat) (xs : List Value) : Prop where
  row : wr.ownsRow w.heap.size 5 1 (.slice (some ⟨g, 0, none⟩) n cap) n xs
  one : ∀ u ∈ xs, u.oneCell' = true
  bel : Below w.heap.size w wr

theorem Own.alloc {w wr : World} {g n cap : Nat} {xs : List Value} (h : Own w wr g n cap xs) (o : Obj) : Own w (wr.alloc o) g n cap xs :=
  ⟨h.row.alloc o, h.one, h.bel.alloc h.bel.size o⟩
theorem Own.drew {w wr : World} {g n cap : Nat} {xs : List Value} (h : Own w wr g n cap xs) : Own w wr.drew g n cap xs :=
  ⟨h.row.drew, h.one, h.bel.drew⟩
theorem Own.lt {w wr : World} {g n cap : Nat} {xs : List Value} (h : Own w wr g n cap xs) : w.heap.size ≤ g ∧ g < wr.heap.size := h.row.lt g rfl
theorem Own.len {w wr : World} {g n cap : Nat} {xs : List Value} (h : Own w wr g n cap xs) : xs.length = n := by have := h.row.1; omega
theorem Own.cells {w wr : World} {g n cap : Nat} {xs : List Value} (h : Own w wr g n cap xs) : ∀ j u, xs[j]? = some u → wr.cell? ((⟨g, 0, none⟩ : Addr).add j) = some u := h.row.cells rfl
theorem Own.head {w wr : World} {g n cap : Nat} {xs : List Value} (h : Own w wr g n cap xs) {u : Value} (hu : xs[0]? = some u) : wr.cell? ⟨g, 0, none⟩ = some u := by
  have := h.cells 0 u hu
  simpa [Addr.add] using this
/-- A row stays where nothing below the later bound turns. -/
theorem Own.later {w wr w' : World} {g n cap : Nat} {xs : List Value} (h : Own w wr g n cap xs) (hb : Below wr.heap.size wr w') : Own w w' g n cap xs := by
  refine ⟨h.row.kept (row := none) ⟨hb.os, hb.tape, hb.output, hb.size, fun k hk _ => hb.block k hk⟩ (Or.inr (by simp [Value.ownBlock])), h.one, h.bel.trans (hb.mono h.bel.size)⟩

theorem wpList_app {ops : Array Oper} {rest : List Oper} {o : Oper} {a : Act} {Q : Exit → Act → World → Prop} (w : World) (hgd : o.guard = none) (s x : Operand)
    (ho : o.op = .call { callee := .builtin .append, args := #[s, x], argTypes := #[31, 31] })
    (w0 : World) (g n cap : Nat) (xs : List Value) (hs : a.eval s = .slice (some ⟨g, 0, none⟩) n cap) (hO : Own w0 w g n cap xs)
    (ad : Addr) (m c : Nat) (news : List Value) (hx : a.eval x = .slice (some ad) m c) (hl : news.length = m) (hnews : ∀ j u, news[j]? = some u → w.cell? (ad.add j) = some u) (h1 : ∀ u ∈ news, u.oneCell' = true)
    (hm : 0 < m) (hb : n + m ≤ 16777216)
    (h : ∀ g' cap' w', Own w0 w' g' (n + m) cap' (xs ++ news) → wpList Try.prog ops Q rest (a.put o.dst (.slice (some ⟨g', 0, none⟩) (n + m) cap')) w') : wpList Try.prog ops Q (o :: rest) a w := by
  obtain ⟨i0, hi, hz0, hz1, hz2⟩ := info_parts info5
  refine wpList_append_lies w hgd s x 31 ho w0.heap.size 5 i0 (.int .u8 0) 1 1 Try.underlying31 hi hz0 hz1 hz2 rfl (by decide) _ n xs hs hO.row ad m c news hx (by omega) hnews h1 hm (by unfold maxLen; omega) (by omega) hO.bel.size _ rfl ?_
  intro g' cap' w' hown hgrow _ _
  refine h g' cap' w' ⟨hown, ?_, ?_⟩
  · intro u hu
    rcases List.mem_append.1 hu with hu | hu
    · exact hO.one u hu
    · exact h1 u hu
  · refine hO.bel.grown hgrow hO.bel.size ?_
    intro k hk
    simp [Value.ownBlock] at hk
    have := hO.lt
    omega

theorem wpList_mk {ops : Array Oper} {rest : List Oper} {o : Oper} {a : Act} {Q : Exit → Act → World → Prop} (w : World) (hgd : o.guard = none) (l c : Operand)
    (ho : o.op = Op.makeSlice 31 l c) (w0 : World) (hb0 : Below w0.heap.size w0 w) (n : Nat) (C : Int) (hl : a.eval l = .int .i64 0) (hc : a.eval c = .int .i64 C) (hC : C = (n : Int)) (hn : n ≤ 16777216)
    (h : ∀ w', Own w0 w' w.heap.size 0 n [] → wpList Try.prog ops Q rest (a.put o.dst (.slice (some ⟨w.heap.size, 0, none⟩) 0 n)) w') : wpList Try.prog ops Q (o :: rest) a w := by
  obtain ⟨i0, hi, hz0, hz1, hz2⟩ := info_parts info5
  refine wpList_make_own w hgd l c 31 ho w0.heap.size 5 i0 (.int .u8 0) 1 Try.underlying31 hi hz0 hz1 .i64 .i64 C n hl hc hC (by rw [hz2]; omega) (by unfold maxLen; omega) hb0.size ?_
  intro w' hown hgrow
  refine h w' ⟨hown, by simp, hb0.grown hgrow hb0.size (by simp)⟩

end Go.Proofs.Qxb6612899a
