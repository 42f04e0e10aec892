/-
  Seat b6630014a: the plain mathematics of the two laws: bytes as numbers, no Go in sight.
-/
namespace Go.Proofs.Qxb6630014a

/-- Byte k of a string, as a number; 0 behind its end. -/
def bt (s : ByteArray) (k : Nat) : Int := if h : k < s.size then ((s[k]'h).toNat : Int) else 0
theorem get_bt (s : ByteArray) : ∀ (n : Nat) (h : n < s.size), ((s[n]'h).toNat : Int) = bt s n := fun n h => by unfold bt; rw [dif_pos h]
theorem bt_nonneg (s : ByteArray) (k : Nat) : 0 ≤ bt s k := by unfold bt; split <;> omega
theorem bt_le (s : ByteArray) (k : Nat) : bt s k ≤ 255 := by
  unfold bt; split
  · have := (s[k]).toNat_lt; omega
  · omega

/-- A byte's upper-case form. -/
def upI (c : Int) : Int := if 97 ≤ c ∧ c ≤ 122 then c - 32 else c
/-- What a name's byte u accepts. -/
def accI (u c : Int) : Bool := decide (¬ (97 ≤ u ∧ u ≤ 122) ∧ (c = u ∨ (65 ≤ u ∧ u ≤ 90 ∧ c = u + 32)))
theorem acc_up (u c : Int) : (accI u c = true) ↔ upI c = u := by
  unfold accI upI
  simp only [decide_eq_true_eq]
  split <;> omega
theorem up_lower {c : Int} (h1 : 97 ≤ c) (h2 : c ≤ 122) : upI c = c - 32 := by unfold upI; rw [if_pos ⟨h1, h2⟩]
theorem up_other {c : Int} (h : ¬ (97 ≤ c ∧ c ≤ 122)) : upI c = c := by unfold upI; rw [if_neg h]

/-- What MatchesUpper answers. -/
def mu (s u : ByteArray) : Bool := decide (s.size = u.size ∧ ∀ k, k < s.size → upI (bt s k) = bt u k)
/-- What acceptedByName answers. -/
def acc (s u : ByteArray) : Bool := decide (s.size = u.size ∧ ∀ k, k < u.size → accI (bt u k) (bt s k) = true)
theorem mu_acc (s u : ByteArray) : mu s u = acc s u := by
  unfold mu acc
  rw [Bool.eq_iff_iff, decide_eq_true_eq, decide_eq_true_eq]
  constructor
  · rintro ⟨h, k⟩
    exact ⟨h, fun i hi => (acc_up _ _).2 (k i (by omega))⟩
  · rintro ⟨h, k⟩
    exact ⟨h, fun i hi => (acc_up _ _).1 (k i (by omega))⟩
theorem mu_yes {s u : ByteArray} (h1 : s.size ≤ u.size) (h2 : u.size ≤ s.size) (h : ∀ j, j < s.size → upI (bt s j) = bt u j) : mu s u = true :=
  decide_eq_true ⟨by omega, h⟩
theorem mu_no_len {s u : ByteArray} (h : ¬ s.size = u.size) : mu s u = false :=
  decide_eq_false fun q => h q.1
theorem mu_no {s u : ByteArray} (k : Nat) (hk : k < s.size) (h : ¬ upI (bt s k) = bt u k) : mu s u = false :=
  decide_eq_false fun q => h (q.2 k hk)
theorem acc_yes {s u : ByteArray} (h1 : s.size ≤ u.size) (h2 : u.size ≤ s.size) (h : ∀ j, j < u.size → accI (bt u j) (bt s j) = true) : acc s u = true :=
  decide_eq_true ⟨by omega, h⟩
theorem acc_no_len {s u : ByteArray} (h : ¬ s.size = u.size) : acc s u = false :=
  decide_eq_false fun q => h q.1
theorem acc_no {s u : ByteArray} (k : Nat) (hk : k < u.size) (h : accI (bt u k) (bt s k) = false) : acc s u = false :=
  decide_eq_false fun q => by rw [q.2 k hk] at h; cases h
theorem all_succ {p : Nat → Prop} {k : Nat} (h : ∀ j, j < k → p j) (hk : p k) : ∀ j, j < k + 1 → p j := fun j hj => by
  by_cases e : j = k
  · rw [e]; exact hk
  · exact h j (by omega)
end Go.Proofs.Qxb6630014a
