/-
  Seat b6630153a: the contracts with the results' shapes written out; the two bounds on lengths (5, 11).
-/
import Derived.Test.Qxb6630153aAppend
import Derived.Test.Qxb6630153aClone
import Derived.Test.Qxb6630153aDecode
namespace Go.Proofs.Qxb6630153a
open Go.RowKit

theorem Ob.shape {w : World} {base : Nat} {v : Value} {L : List Int} {n : Nat} (h : Ob w base v L) (hn : L.length = n) : ∃ aa ca, v = .slice aa n ca ∧ Bv w aa n L := by
  subst hn
  rcases h.2 with ⟨rfl, h0⟩ | ⟨g, cap, cur, rfl, hb, hg, hnc, hcm, hcs, htake⟩
  · exact ⟨none, 0, by rw [h0], rfl, .inl h0⟩
  · refine ⟨_, _, rfl, rfl, .inr ⟨g, 0, rfl, fun j hj => ?_⟩⟩
    rw [Nat.zero_add, World.ownsRow.cellAt h j (by omega)]
    simp [List.getD, hj]

theorem Ob.row {w : World} {base : Nat} {v : Value} {L : List Int} {n : Nat} (h : Ob w base v L) (hn : L.length = n) (hpos : 0 < n) :
    ∃ g cap, v = .slice (some ⟨g, 0, none⟩) n cap ∧ base ≤ g ∧ g < w.heap.size ∧ n ≤ cap ∧ ∀ j, j < n → w.cell? ⟨g, j, none⟩ = some (.int .u8 (L.getD j 0)) := by
  subst hn
  rcases h.2 with ⟨rfl, h0⟩ | ⟨g, cap, cur, rfl, hb, hg, hnc, hcm, hcs, htake⟩
  · omega
  · refine ⟨g, cap, rfl, hb, (Array.getElem?_eq_some_iff.1 hg).1, hnc, fun j hj => ?_⟩
    rw [World.ownsRow.cellAt h j (by omega)]
    simp [List.getD, hj]

/-- jdb1Clone of any slice of bytes that came in. -/
theorem clone_all (a0 : Option Addr) (n cap : Nat) (xs : List Int) (w : World) (hn : n ≤ 1048576) (hb : Bv w a0 n xs) (hnone : a0 = none → n = 0 ∧ cap = 0) (hlt : n = 0 ∨ ∀ x, a0 = some x → x.block < w.heap.size) :
    Calls Try.prog 6 #[.slice a0 n cap] w fun e w' => ∃ v, e = .returned v ∧ Ob w' w.heap.size v xs ∧ Below w.heap.size w w' := by
  cases a0 with
  | none =>
    obtain ⟨rfl, rfl⟩ := hnone rfl
    refine (clone_nil w).mono ?_
    rintro e w' ⟨rfl, rfl⟩
    have hx : xs = [] := List.eq_nil_of_length_eq_zero hb.1
    exact ⟨_, rfl, by rw [hx]; exact Ob.nil _ _, Below.refl _ _⟩
  | some a =>
    refine (clone_some a n cap xs w hn hb (hlt.elim (fun h => .inl h) (fun h => .inr (h a rfl)))).mono ?_
    rintro e w' ⟨rfl, hown, hbel⟩
    exact ⟨_, rfl, hown, hbel⟩

/-- AppendString, its result written out. -/
theorem append_shape (base : Nat) (v : Value) (zs : List Int) (s : ByteArray) (w : World) (hbase : base ≤ w.heap.size) (hown : Ob w base v zs) (hz : zs.length ≤ 1048576) (hs : s.size ≤ 1048576) :
    Calls Try.prog 7 #[v, .string s] w fun e w' => ∃ g N cp, e = .returned (.slice (some ⟨g, 0, none⟩) N cp) ∧ Hid ((zs ++ encS (sl s)).length = N) ∧ N ≤ cp ∧ base ≤ g ∧ g < w'.heap.size ∧
      Hid (∀ j, j < N → w'.cell? ⟨g, j, none⟩ = some (.int .u8 ((zs ++ encS (sl s)).getD j 0))) ∧ Below base w w' := by
  refine (append_own base v zs s w hbase hown hz hs).mono ?_
  rintro e w' ⟨v', rfl, ho, hb⟩
  have h2 := encS_len (sl s)
  obtain ⟨g, cp, rfl, h3, h4, h5, h6⟩ := ho.row rfl (by rw [List.length_append]; omega)
  exact ⟨g, _, cp, rfl, rfl, h5, h3, h4, h6, hb⟩

/-- The decoder, its result written out. -/
theorem decode_shape (g o n cap : Nat) (L : List Int) (m : Nat) (w : World) (hL : ∀ c ∈ L, 0 ≤ c ∧ c ≤ 255) (hm : L.length = m) (hlen : m ≤ 1048576) (hn : (encS L).length = n) (hc : ∀ j, j < n → w.cell? ⟨g, o + j, none⟩ = some (.int .u8 ((encS L).getD j 0))) (hg : g < w.heap.size) :
    Calls Try.prog 9 #[.slice (some ⟨g, o, none⟩) n cap] w fun e w' => ∃ aa ca, e = .returned (.tuple #[.slice aa m ca, .bool true]) ∧ Bv w' aa m L ∧ Below w.heap.size w w' := by
  refine (decode_any g o n cap L w hL (by omega) hn hc hg).mono ?_
  rintro e w' ⟨v', rfl, ho, hb⟩
  obtain ⟨aa, ca, rfl, h⟩ := ho.shape hm
  exact ⟨aa, ca, rfl, h, hb⟩

theorem Bv.below {w w' : World} {ao : Option Addr} {n : Nat} {xs : List Int} {B : Nat} (h : Bv w ao n xs) (hb : Below B w w') (hlt : n = 0 ∨ ∀ x, ao = some x → x.block < B) : Bv w' ao n xs := by
  refine ⟨h.1, ?_⟩
  rcases h.2 with h0 | ⟨g, o, rfl, hc⟩
  · exact .inl h0
  · rcases hlt with h0 | hlt
    · exact .inl h0
    · exact .inr ⟨g, o, rfl, fun j hj => (hb.cell (p := ⟨g, o + j, none⟩) (hlt ⟨g, o, none⟩ rfl)).trans (hc j hj)⟩

theorem getD_left {A B : List Int} {j : Nat} (h : j < A.length) : (A ++ B).getD j 0 = A.getD j 0 := by
  rw [List.getD, List.getElem?_append_left h]; rfl
theorem getD_right {A B : List Int} (j : Nat) : (A ++ B).getD (A.length + j) 0 = B.getD j 0 := by
  rw [List.getD, List.getElem?_append_right (by omega), Nat.add_sub_cancel_left]; rfl
theorem below_drewN' {B : Nat} {a w : World} (h : Below B a w) (n : Nat) : Below B a (w.drewN n) := ⟨h.os, h.tape, h.output, h.size, h.block⟩

set_option maxHeartbeats 400000 in
theorem zzA_any (a0 : Option Addr) (n cap : Nat) (s : ByteArray) (w : World) (hn : n ≤ maxLen) (hs : s.size ≤ maxLen) :
    Calls Try.prog 5 #[.slice a0 n cap, .string s] w fun e w' => ∃ b, e = .returned (.bool b) ∧ w = w' := by
  unfold maxLen at hn hs
  by_cases h1 : n ≤ 1048576
  · by_cases h2 : s.size ≤ 1048576
    · by_cases h3 : n + s.size ≤ 1048576
      all_goals
        go_enter Try.func5, Try.ntmps5
        go_wp2
        go_ret
        exact ⟨_, rfl, rfl⟩
    · go_enter Try.func5, Try.ntmps5
      go_wp2
      go_ret
      exact ⟨_, rfl, rfl⟩
  · go_enter Try.func5, Try.ntmps5
    go_wp2
    go_ret
    exact ⟨_, rfl, rfl⟩

set_option maxHeartbeats 400000 in
theorem zzB_any (a0 : Option Addr) (n cap : Nat) (s : ByteArray) (k : Int) (w : World) (hn : n ≤ maxLen) (hs : s.size ≤ maxLen) :
    Calls Try.prog 11 #[.slice a0 n cap, .string s, .int .i64 k] w fun e w' => ∃ b, e = .returned (.bool b) ∧ w = w' := by
  unfold maxLen at hn hs
  by_cases h1 : n ≤ 1048576
  · by_cases h2 : s.size ≤ 1048576
    · by_cases h3 : n + s.size ≤ 1048576
      all_goals
        go_enter Try.func11, Try.ntmps11
        go_wp2
        go_ret
        exact ⟨_, rfl, rfl⟩
    · go_enter Try.func11, Try.ntmps11
      go_wp2
      go_ret
      exact ⟨_, rfl, rfl⟩
  · go_enter Try.func11, Try.ntmps11
    go_wp2
    go_ret
    exact ⟨_, rfl, rfl⟩
end Go.Proofs.Qxb6630153a
