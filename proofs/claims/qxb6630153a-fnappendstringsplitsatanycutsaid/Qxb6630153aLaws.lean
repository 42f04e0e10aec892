/-
  Seat b6630153a: an owned row of bytes, and what an append makes of it, in the walk's forms.
-/
import Derived.Test.Qxb6630153aRows
import Derived.Test.Qxb6630153aPlain
import Derived.WalkKit
import Derived.WalkSpells
import Derived.WalkLawsBesides
import Derived.Lib.AppendStr
import Derived.Lib.Strings
import Derived.Deep.RegionLaw
namespace Go.Proofs.Qxb6630153a
open Go.RowKit

theorem Try.info5 : (Try.prog.info? 5).map (fun i => (i.zero, i.size, i.bytes)) = some (some (.int .u8 0), 1, 1) := by kernel_rfl

/-- The value v owns the bytes zs, in a row among the blocks from 'base' on. -/
def Ob (w : World) (base : Nat) (v : Value) (zs : List Int) : Prop := w.ownsRow base 5 1 v zs.length (zs.map (Value.int .u8))

theorem Ob.nil (w : World) (base : Nat) : Ob w base (.slice none 0 0) [] := World.ownsRow_nil w base 5 1

theorem sl_cells (s : ByteArray) : Lib.strCells s = (sl s).map (Value.int .u8) := by
  unfold Lib.strCells sl
  rw [List.map_map]
  rfl

theorem sl_extract (s : ByteArray) (j k : Nat) : sl (s.extract j k) = ((sl s).take k).drop j := by
  unfold sl
  rw [Lib.extract_data, List.map_take, List.map_drop, List.drop_take]
theorem sl_extract_end (s : ByteArray) (j : Nat) : sl (s.extract j s.size) = (sl s).drop j := by
  rw [sl_extract s j s.size, List.take_of_length_le (by rw [sl_length]; exact Nat.le_refl _)]

theorem new_cells (w : World) (L : List Value) (t : TypeId) : ∀ j u, L[j]? = some u → (w.alloc (.cells L.toArray t)).cell? ((⟨w.heap.size, 0, none⟩ : Addr).add j) = some u := by
  intro j u h
  rw [Addr.add_lit, Nat.zero_add, World.cell?_alloc_mark]
  simpa using h

section
variable {ops : Array Oper} {rest : List Oper} {o : Oper} {a : Act} {Q : Exit → Act → World → Prop}

/-- 'append(b, x, y ..)': the new bytes lie in the block that has just been laid. -/
theorem app_new (w0 : World) (hgd : o.guard = none) (s x : Operand) (ho : o.op = .call { callee := .builtin .append, args := #[s, x], argTypes := #[22, 22] })
    (base : Nat) (v : Value) (ys news : List Int) (hs : a.eval s = v) (hown : Ob w0 base v ys) (hx : a.eval x = .slice (some ⟨w0.heap.size, 0, none⟩) news.length news.length)
    (hb : base ≤ w0.heap.size) (hlen : ys.length + news.length ≤ 1073741824)
    (h : ∀ v' w', Ob w' base v' (ys ++ news) → w0.grownBy w' v.ownBlock → wpList Try.prog ops Q rest (a.put o.dst v') w') :
    wpList Try.prog ops Q (o :: rest) a (w0.alloc (.cells (news.map (Value.int .u8)).toArray 5)) := by
  obtain ⟨i0, hi, hz0, hz1, hz2⟩ := info_parts Try.info5
  refine wpList_append_own _ hgd s x 22 ho base 5 i0 (.int .u8 0) 1 1 Try.underlying22 hi hz0 hz1 hz2 rfl (by decide) v ys.length (ys.map (Value.int .u8)) hs (hown.alloc _) ⟨w0.heap.size, 0, none⟩ news.length news.length (news.map (Value.int .u8)) hx (by simp) (new_cells w0 _ 5) (ints_oneCell .u8 news) (by unfold maxLen; omega) (by omega) (by simp; omega) ?_
  intro v' w' h1 h2 _
  refine h v' w' ?_ ((World.grownBy_alloc w0 _ _).trans h2)
  unfold Ob
  rw [List.length_append, List.map_append]
  exact h1

/-- 'append(b, t...)', t a string. -/
theorem app_str (w0 : World) (hgd : o.guard = none) (s x : Operand) (ho : o.op = .call { callee := .builtin .append, args := #[s, x], argTypes := #[22, 9] })
    (base : Nat) (v : Value) (ys : List Int) (t : ByteArray) (hs : a.eval s = v) (hown : Ob w0 base v ys) (hx : a.eval x = .string t)
    (hb : base ≤ w0.heap.size) (hlen : ys.length + t.size ≤ 1073741824)
    (h : ∀ v' w', Ob w' base v' (ys ++ sl t) → w0.grownBy w' v.ownBlock → wpList Try.prog ops Q rest (a.put o.dst v') w') :
    wpList Try.prog ops Q (o :: rest) a w0 := by
  obtain ⟨i0, hi, hz0, hz1, hz2⟩ := info_parts Try.info5
  refine Lib.wpList_append_own_string _ hgd s x 22 9 ho base 5 i0 Try.underlying22 Try.underlying9 hi hz0 hz1 hz2 v ys.length (ys.map (Value.int .u8)) hs hown t hx (by unfold maxLen; omega) (by omega) hb ?_
  intro v' w' h1 h2 _
  refine h v' w' ?_ h2
  unfold Ob
  rw [List.length_append, List.map_append, sl_length, ← sl_cells]
  exact h1
end

/-- 'append(b, x, y ..)' as one step of a region that draws its order. -/
theorem step_new {ops : Array Oper} {o : Oper} {a : Act} {K : Act → World → Prop} {Q : Exit → Act → World → Prop} {E : Prop} (w0 : World)
    (hg : o.guard = none) (s x : Operand) (hop : o.op = Op.call { callee := Callee.builtin Builtin.append, args := #[s, x], argTypes := #[22, 22] })
    (base : Nat) (v : Value) (ys news : List Int) (hs : a.eval s = v) (hown : Ob w0 base v ys) (hx : a.eval x = .slice (some ⟨w0.heap.size, 0, none⟩) news.length news.length)
    (hb : base ≤ w0.heap.size) (hlen : ys.length + news.length ≤ 1073741824) (W : World) (hW : W = w0.alloc (.cells (news.map (Value.int .u8)).toArray 5))
    (hK : ∀ v' w', Ob w' base v' (ys ++ news) → w0.grownBy w' v.ownBlock → K (a.put o.dst v') w') :
    if Region.wanted o (yielded ops a.tmps) = true then Oper.wp Try.prog o a W K Q else E := by
  subst hW
  have hw : Region.wanted o (yielded ops a.tmps) = true := by simp [Region.wanted, hg]
  rw [if_pos hw]
  obtain ⟨i0, hi, hz0, hz1, hz2⟩ := info_parts Try.info5
  refine wp_append_own _ s x 22 hop base 5 i0 (.int .u8 0) 1 1 Try.underlying22 hi hz0 hz1 hz2 rfl (by decide) v ys.length (ys.map (Value.int .u8)) hs (hown.alloc _) ⟨w0.heap.size, 0, none⟩ news.length news.length (news.map (Value.int .u8)) hx (by simp) (new_cells w0 _ 5) (ints_oneCell .u8 news) (by unfold maxLen; omega) (by omega) (by simp; omega) ?_
  intro v' w' h1 h2 _
  refine hK v' w' ?_ ((World.grownBy_alloc w0 _ _).trans h2)
  unfold Ob
  rw [List.length_append, List.map_append]
  exact h1

/-- 'Below' goes on behind an append onto an owned row. -/
theorem Ob.below {w0 w1 w' : World} {base : Nat} {v : Value} {ys : List Int} (h : Ob w0 base v ys) (hb : Below base w1 w0) (hB : base ≤ w0.heap.size) (hg : w0.grownBy w' v.ownBlock) : Below base w1 w' :=
  hb.grown hg hB (fun k hk => (h.lt k hk).1)
end Go.Proofs.Qxb6630153a
