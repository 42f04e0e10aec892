/-
  Seat b6630153a: where the bytes of an escaped text lie: for the decoder's walk. No Go in sight.
-/
import Derived.Test.Qxb6630153aPlain
namespace Go.Proofs.Qxb6630153a

theorem getD_mid (A B C : List Int) (t : Nat) (h : t < B.length) : (A ++ (B ++ C)).getD (A.length + t) 0 = B.getD t 0 := by
  rw [List.getD, List.getElem?_append_right (by omega), Nat.add_sub_cancel_left, List.getElem?_append_left h]
  rfl

theorem encS_split {L : List Int} {k : Nat} (hk : k < L.length) : encS L = (34 :: encL (L.take k)) ++ (enc1 (L.getD k 0) ++ (encL (L.drop (k + 1)) ++ [34])) := by
  have e : L.take k ++ ([L.getD k 0] ++ L.drop (k + 1)) = L := by
    rw [← List.append_assoc, ← take_succ_getD hk, List.take_append_drop]
  have h : encL L = encL (L.take k) ++ (enc1 (L.getD k 0) ++ encL (L.drop (k + 1))) := by
    have h1 := congrArg encL e
    rw [encL_append, encL_append, encL_one] at h1
    exact h1.symm
  unfold encS
  rw [h]
  simp

/-- Byte t of the escape of byte k. -/
theorem spot {L : List Int} {k p : Nat} (hk : k < L.length) (hp : p = 1 + (encL (L.take k)).length) (E : List Int) (hE : enc1 (L.getD k 0) = E) (t : Nat) (ht : t < E.length) : (encS L).getD (p + t) 0 = E.getD t 0 := by
  rw [encS_split hk, hE]
  have : p = (34 :: encL (L.take k)).length := by rw [hp, List.length_cons]; omega
  rw [this]
  exact getD_mid _ _ _ _ ht

theorem spot_room {L : List Int} {k p n : Nat} (hk : k < L.length) (hp : p = 1 + (encL (L.take k)).length) (hn : (encS L).length = n) (E : List Int) (hE : enc1 (L.getD k 0) = E) : p + E.length + 1 ≤ n := by
  rw [encS_split hk, hE] at hn
  simp only [List.length_append, List.length_cons, List.length_nil] at hn
  omega

theorem spot_next {L : List Int} {k p : Nat} (hk : k < L.length) (hp : p = 1 + (encL (L.take k)).length) (E : List Int) (hE : enc1 (L.getD k 0) = E) : p + E.length = 1 + (encL (L.take (k + 1))).length := by
  rw [encL_take hk, hE, List.length_append]
  omega

theorem spot_end {L : List Int} {p n : Nat} (hp : p = 1 + (encL (L.take L.length)).length) (hn : (encS L).length = n) : (encS L).getD p 0 = 34 ∧ p + 1 = n := by
  rw [List.take_length] at hp
  have e : encS L = (34 :: encL L) ++ ([34] ++ []) := by simp [encS]
  constructor
  · have : p = (34 :: encL L).length + 0 := by rw [hp, List.length_cons]; omega
    rw [e, this, getD_mid _ _ _ _ (by simp)]
    rfl
  · rw [← hn, e, hp]
    simp only [List.length_append, List.length_cons, List.length_nil]
    omega

theorem encS_head (L : List Int) : (encS L).getD 0 0 = 34 := rfl
theorem encS_len (L : List Int) : 2 ≤ (encS L).length ∧ (encS L).length ≤ 6 * L.length + 2 := by
  have := encL_len L
  simp only [encS, List.length_append, List.length_cons, List.length_nil]
  omega
end Go.Proofs.Qxb6630153a
