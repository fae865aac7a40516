/-
  THE BYTES THAT THE CALL ITSELF GATHERS: the kit's law on append at this program's []byte, in two words of our own.
-/
import Derived.Test.Qxb6600088aRows
import Derived.Test.Qxb6600088aPlain
import Derived.WalkKit
import Derived.WalkSpells
import Derived.WalkLawsBesides
import Derived.Deep.AppendLies
namespace Go.Proofs.Qxb6600088a.Bytes
open Go.RowKit

theorem info5 : (Try.prog.info? 5).map (fun i => (i.zero, i.size, i.bytes)) = some (some (.int .u8 0), 1, 1) := by kernel_rfl

/-- the value v, made since the world w0, owns the bytes xs; below w0's blocks nothing has turned -/
def Own (w0 wr : World) (v : Value) (xs : List Int) : Prop :=
  wr.ownsRow w0.heap.size 5 1 v xs.length (xs.map (Value.int .u8)) ∧ Below w0.heap.size w0 wr
/-- the same of a slice at the head of block g -/
def Row (w0 wr : World) (g n cap : Nat) (xs : List Int) : Prop :=
  n = xs.length ∧ Own w0 wr (.slice (some ⟨g, 0, none⟩) n cap) xs

theorem own_nil (w0 : World) : Own w0 w0 (.slice none 0 0) [] := ⟨World.ownsRow_nil _ _ _ _, Below.refl _ _⟩

theorem own_block {w0 wr : World} {v : Value} {xs : List Int} (h : Own w0 wr v xs) : ∀ k, v.ownBlock = some k → w0.heap.size ≤ k := by
  intro k hk
  rcases h.1.2 with ⟨rfl, _⟩ | ⟨g, cap, cur, rfl, hb, _⟩
  · simp [Value.ownBlock] at hk
  · simp only [Value.ownBlock, Option.some.injEq] at hk; omega

theorem ones (xs : List Int) : ∀ u ∈ xs.map (Value.int .u8), u.oneCell' = true := by
  intro u hu
  obtain ⟨x, _, rfl⟩ := List.mem_map.1 hu
  rfl

/-- what is owned and what has not turned, behind an append: a step shared by both laws below -/
theorem row_of {w0 wr w1 : World} {v : Value} {xs news : List Int} {cs : Array Value} {g cap m : Nat} (hown : Own w0 wr v xs) (hl : news.length = m)
    (h1 : w1.ownsRow w0.heap.size 5 1 (.slice (some ⟨g, 0, none⟩) (xs.length + m) cap) (xs.length + m) (xs.map (Value.int .u8) ++ news.map (Value.int .u8)))
    (h2 : (wr.alloc (.cells cs 5)).grownBy w1 v.ownBlock) : Row w0 w1 g (xs.length + m) cap (xs ++ news) := by
  subst hl
  refine ⟨(List.length_append).symm, ?_, ?_⟩
  · rw [List.length_append, List.map_append]; exact h1
  · have hz := hown.2.size
    exact (hown.2.alloc hz _).grown h2 (by simp; omega) (own_block hown)

/-- append onto a row of the call's own, the new bytes in a block just laid: at a plain region's list -/
theorem app {ops : Array Oper} {rest : List Oper} {o : Oper} {a : Act} {Q : Exit → Act → World → Prop} (hgd : o.guard = none) (s x : Operand)
    (ho : o.op = .call { callee := .builtin .append, args := #[s, x], argTypes := #[23, 23] })
    (w0 wr : World) (v : Value) (xs : List Int) (hs : a.eval s = v) (hown : Own w0 wr v xs)
    (cs : Array Value) (m c : Nat) (news : List Int) (hcs : cs.toList = news.map (Value.int .u8)) (hx : a.eval x = .slice (some ⟨wr.heap.size, 0, none⟩) m c) (hl : news.length = m) (hm : 0 < m)
    (hb : xs.length + m ≤ 100000000)
    (h : ∀ g n cap w1, Row w0 w1 g n cap (xs ++ news) → wpList Try.prog ops Q rest (a.put o.dst (.slice (some ⟨g, 0, none⟩) n cap)) w1) :
    wpList Try.prog ops Q (o :: rest) a (wr.alloc (.cells cs 5)) := by
  obtain ⟨i0, hi, hz0, hz1, hz2⟩ := info_parts info5
  have hz := hown.2.size
  refine wpList_append_lies _ hgd s x 23 ho w0.heap.size 5 i0 (.int .u8 0) 1 1 Try.underlying23 hi hz0 hz1 hz2 rfl (by omega) v xs.length (xs.map (Value.int .u8)) hs (hown.1.alloc _)
    ⟨wr.heap.size, 0, none⟩ m c (news.map (Value.int .u8)) hx (by simp [hl]) ?_ (ones news) hm (by unfold maxLen; omega) (by omega) (by simp; omega) _ rfl ?_
  · rw [← hcs]; exact World.news_of_block (heap_alloc_new _ _)
  · intro g cap w1 h1 h2 _ _
    exact h g _ cap w1 (row_of hown hl h1 h2)

/-- the same at a step of a region that draws its order -/
theorem step_app {ops : Array Oper} {o : Oper} {a : Act} {K : Act → World → Prop} {Q : Exit → Act → World → Prop} {F : Prop} (hgd : o.guard = none) (s x : Operand)
    (ho : o.op = .call { callee := .builtin .append, args := #[s, x], argTypes := #[23, 23] })
    (w0 wr : World) (v : Value) (xs : List Int) (hs : a.eval s = v) (hown : Own w0 wr v xs)
    (cs : Array Value) (m c : Nat) (news : List Int) (hcs : cs.toList = news.map (Value.int .u8)) (hx : a.eval x = .slice (some ⟨wr.heap.size, 0, none⟩) m c) (hl : news.length = m) (hm : 0 < m)
    (hb : xs.length + m ≤ 100000000)
    (h : ∀ g n cap w1, Row w0 w1 g n cap (xs ++ news) → K (a.put o.dst (.slice (some ⟨g, 0, none⟩) n cap)) w1) :
    if Region.wanted o (yielded ops a.tmps) = true then Oper.wp Try.prog o a (wr.alloc (.cells cs 5)).drew K Q else F := by
  obtain ⟨i0, hi, hz0, hz1, hz2⟩ := info_parts info5
  have hz := hown.2.size
  refine step_append_lies _ hgd s x 23 ho w0.heap.size 5 i0 (.int .u8 0) 1 1 Try.underlying23 hi hz0 hz1 hz2 rfl (by omega) v xs.length (xs.map (Value.int .u8)) hs ((hown.1.alloc _).drew)
    ⟨wr.heap.size, 0, none⟩ m c (news.map (Value.int .u8)) hx (by simp [hl]) ?_ (ones news) hm (by unfold maxLen; omega) (by omega) (by simp; omega) _ rfl ?_
  · rw [← hcs]; exact World.news_of_block (w := (wr.alloc (.cells cs 5)).drew) (heap_alloc_new wr _)
  · intro g cap w1 h1 h2 _ _
    exact h g _ cap w1 (row_of hown hl h1 ⟨h2.os, h2.tape, h2.output, h2.size, h2.block⟩)

/-- a slice of the bytes xs lies at the head of block g -/
def Tok (w : World) (g n : Nat) (xs : List Int) : Prop :=
  n = xs.length ∧ g < w.heap.size ∧ ∀ j u, xs[j]? = some u → w.cell? ⟨g, j, none⟩ = some (.int .u8 u)

theorem tok_of_row {w0 wr : World} {g n cap : Nat} {xs : List Int} (h : Row w0 wr g n cap xs) : Tok wr g n xs := by
  obtain ⟨hn, hown, _⟩ := h
  subst hn
  refine ⟨rfl, ?_, fun j u hj => ?_⟩
  · rcases hown.2 with ⟨hv, _⟩ | ⟨g', cap', cur, hv, _, hg, _⟩
    · cases hv
    · simp only [Value.slice.injEq, Option.some.injEq, Addr.mk.injEq, and_true, true_and] at hv
      obtain ⟨rfl, rfl⟩ := hv
      rcases Nat.lt_or_ge g wr.heap.size with hlt | hge
      · exact hlt
      · rw [Array.getElem?_eq_none hge] at hg; cases hg
  · have hlt : j < xs.length := by
      rcases Nat.lt_or_ge j xs.length with q | q
      · exact q
      · rw [List.getElem?_eq_none q] at hj; cases hj
    rw [hown.cellAt j (by omega), List.getElem?_map, hj]
    rfl

theorem tok_below {w wr : World} {g n : Nat} {xs : List Int} (h : Tok w g n xs) (hb : Below w.heap.size w wr) : Tok wr g n xs :=
  ⟨h.1, Nat.lt_of_lt_of_le h.2.1 hb.size, fun j u hj => (hb.cell (p := ⟨g, j, none⟩) h.2.1).trans (h.2.2 j u hj)⟩

/-- make([]byte, 0, n) -/
theorem mk {ops : Array Oper} {rest : List Oper} {o : Oper} {a : Act} {Q : Exit → Act → World → Prop} (hgd : o.guard = none) (l c : Operand) (ho : o.op = Op.makeSlice 23 l c)
    (w : World) (kl kc : IntKind) (n : Nat) (hl : a.eval l = .int kl 0) (hc : a.eval c = .int kc (n : Int)) (hn : n ≤ 100000000)
    (h : ∀ g cap w1, Row w w1 g 0 cap [] → wpList Try.prog ops Q rest (a.put o.dst (.slice (some ⟨g, 0, none⟩) 0 cap)) w1) : wpList Try.prog ops Q (o :: rest) a w := by
  obtain ⟨i0, hi, hz0, hz1, hz2⟩ := info_parts info5
  refine wpList_make_own w hgd l c 23 ho w.heap.size 5 i0 (.int .u8 0) 1 Try.underlying23 hi hz0 hz1 kl kc (n : Int) n hl hc rfl (by rw [hz2]; omega) (by unfold maxLen; omega) (Nat.le_refl _) ?_
  intro w1 h1 h2
  exact h _ _ w1 ⟨rfl, h1, (Below.refl _ _).grown h2 (Nat.le_refl _) (fun k hk => by cases hk)⟩

end Go.Proofs.Qxb6600088a.Bytes
