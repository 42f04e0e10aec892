/-
  Seat b6630153a: the plain mathematics: strings as lists of numbers, their JSON escapes. No Go in sight.
-/
namespace Go.Proofs.Qxb6630153a

/-- A string's bytes, as numbers. -/
def sl (s : ByteArray) : List Int := s.data.toList.map fun b => (b.toNat : Int)
/-- Byte k of a string, as a number; 0 behind its end. -/
def bt (s : ByteArray) (k : Nat) : Int := (sl s).getD k 0
theorem sl_length (s : ByteArray) : (sl s).length = s.size := by
  unfold sl
  rw [List.length_map, Array.length_toList]
  rfl
theorem get_bt (s : ByteArray) : ∀ (n : Nat) (h : n < s.size), ((s[n]'h).toNat : Int) = bt s n := fun n h => by
  unfold bt sl
  have h' : n < s.data.toList.length := by simpa using h
  rw [List.getD, List.getElem?_map, List.getElem?_eq_getElem h']
  rfl
theorem sl_bd (s : ByteArray) : ∀ c ∈ sl s, 0 ≤ c ∧ c ≤ 255 := by
  intro c hc
  obtain ⟨b, _, rfl⟩ := List.mem_map.1 hc
  have := b.toNat_lt
  omega
theorem getD_bd {l : List Int} (h : ∀ c ∈ l, 0 ≤ c ∧ c ≤ 255) (k : Nat) : 0 ≤ l.getD k 0 ∧ l.getD k 0 ≤ 255 := by
  by_cases hk : k < l.length
  · rw [List.getD, List.getElem?_eq_getElem hk]
    exact h _ (List.getElem_mem _)
  · rw [List.getD, List.getElem?_eq_none (by omega)]
    simp
theorem bt_bd (s : ByteArray) (k : Nat) : 0 ≤ bt s k ∧ bt s k ≤ 255 := getD_bd (sl_bd s) k

/-- A lower-case hexadecimal digit. -/
def hexd (n : Int) : Int := if n < 10 then 48 + n else 87 + n
/-- One byte's escape. -/
def enc1 (c : Int) : List Int :=
  if c = 34 ∨ c = 92 then [92, c]
  else if c = 10 then [92, 110]
  else if c = 13 then [92, 114]
  else if c = 9 then [92, 116]
  else if c < 32 then [92, 117, 48, 48, hexd (c / 16), hexd (c % 16)]
  else [c]
def encL (l : List Int) : List Int := l.flatMap enc1
/-- The JSON string of l. -/
def encS (l : List Int) : List Int := 34 :: (encL l ++ [34])

theorem enc_plain {c : Int} (h : 32 ≤ c) (h1 : c ≠ 34) (h2 : c ≠ 92) : enc1 c = [c] := by
  unfold enc1; rw [if_neg (by omega), if_neg (by omega), if_neg (by omega), if_neg (by omega), if_neg (by omega)]
theorem enc_two {c : Int} (h : c = 34 ∨ c = 92) : enc1 c = [92, c] := by unfold enc1; rw [if_pos h]
theorem enc_ctl {c : Int} (h : c < 32) (h1 : c ≠ 10) (h2 : c ≠ 13) (h3 : c ≠ 9) : enc1 c = [92, 117, 48, 48, hexd (c / 16), hexd (c % 16)] := by
  unfold enc1; rw [if_neg (by omega), if_neg h1, if_neg h2, if_neg h3, if_pos h]
theorem enc1_len (c : Int) : 1 ≤ (enc1 c).length ∧ (enc1 c).length ≤ 6 := by
  unfold enc1
  repeat' split
  all_goals simp
theorem encL_append (l m : List Int) : encL (l ++ m) = encL l ++ encL m := by simp [encL]
theorem encL_one (c : Int) : encL [c] = enc1 c := by simp [encL]
theorem encL_len : ∀ l : List Int, (encL l).length ≤ 6 * l.length
  | [] => by simp [encL]
  | c :: r => by
    have h := encL_len r
    have h1 := enc1_len c
    have e : encL (c :: r) = enc1 c ++ encL r := by simp [encL]
    rw [e, List.length_append, List.length_cons]
    omega

theorem take_succ_getD {l : List Int} {k : Nat} (h : k < l.length) : l.take (k + 1) = l.take k ++ [l.getD k 0] := by
  rw [List.take_succ_eq_append_getElem h, List.getD, List.getElem?_eq_getElem h]
  rfl

/-- What the escapes of the first bytes are, one byte on. -/
theorem encL_take {l : List Int} {k : Nat} (h : k < l.length) : encL (l.take (k + 1)) = encL (l.take k) ++ enc1 (l.getD k 0) := by
  rw [take_succ_getD h, encL_append, encL_one]

/-- A plain byte: it waits in the raw tail. -/
theorem step_plain {l zs ys : List Int} {k j : Nat} (hk : k < l.length) (hj : j ≤ k) (h : ys ++ (l.take k).drop j = zs ++ 34 :: encL (l.take k)) (hc : enc1 (l.getD k 0) = [l.getD k 0]) :
    ys ++ (l.take (k + 1)).drop j = zs ++ 34 :: encL (l.take (k + 1)) := by
  rw [encL_take hk, hc, take_succ_getD hk, List.drop_append_of_le_length (by rw [List.length_take]; omega), ← List.append_assoc, h]
  simp
/-- An escaped byte: the raw tail is laid, then the escape. -/
theorem step_esc {l zs ys news : List Int} {k j : Nat} (hk : k < l.length) (h : ys ++ (l.take k).drop j = zs ++ 34 :: encL (l.take k)) (hc : enc1 (l.getD k 0) = news) :
    (ys ++ (l.take k).drop j) ++ news ++ (l.take (k + 1)).drop (k + 1) = zs ++ 34 :: encL (l.take (k + 1)) := by
  rw [encL_take hk, hc, h, List.drop_of_length_le (by rw [List.length_take]; omega)]
  simp
theorem ys_len {l zs ys : List Int} {k j : Nat} (h : ys ++ (l.take k).drop j = zs ++ 34 :: encL (l.take k)) : ys.length + ((l.take k).drop j).length ≤ zs.length + 1 + 6 * k := by
  have h1 := congrArg List.length h
  have h2 := encL_len (l.take k)
  have h3 : (l.take k).length ≤ k := List.length_take_le _ _
  simp only [List.length_append, List.length_cons] at h1
  omega
theorem fin_enc {l zs ys : List Int} {j : Nat} {n : Nat} (hn : l.length ≤ n) (h : ys ++ (l.take n).drop j = zs ++ 34 :: encL (l.take n)) : (ys ++ l.drop j) ++ [34] = zs ++ encS l := by
  rw [List.take_of_length_le hn] at h
  rw [h]
  simp [encS]
end Go.Proofs.Qxb6630153a
