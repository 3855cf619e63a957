/- The plain functions behind csvField, csvRow and their reader: lists of bytes, no Go in sight. -/
namespace Go.Proofs.Qxb6002785aMods.Plain

/-- A byte that asks for quotes: a comma, a quote, CR, LF. -/
def sp (c : UInt8) : Bool := c == 44 || c == 34 || c == 13 || c == 10
def special (l : List UInt8) : Bool := l.any sp
/-- Each quote doubled. -/
def esc : List UInt8 → List UInt8
  | [] => []
  | c :: r => if c = 34 then 34 :: 34 :: esc r else c :: esc r
/-- One CSV field. -/
def enc (l : List UInt8) : List UInt8 := if special l then 34 :: (esc l ++ [34]) else l
def quotes : List UInt8 → Nat
  | [] => 0
  | c :: r => (if c = 34 then 1 else 0) + quotes r

theorem length_esc (l : List UInt8) : (esc l).length = l.length + quotes l := by
  induction l with
  | nil => rfl
  | cons c r ih => by_cases h : c = 34 <;> simp [esc, quotes, h, ih] <;> omega
theorem quotes_le (l : List UInt8) : quotes l ≤ l.length := by
  induction l with
  | nil => simp [quotes]
  | cons c r ih => by_cases h : c = 34 <;> simp [quotes, h] <;> omega
theorem esc_append (a b : List UInt8) : esc (a ++ b) = esc a ++ esc b := by
  induction a with
  | nil => rfl
  | cons c r ih => by_cases h : c = 34 <;> simp [esc, h, ih]
theorem quotes_append (a b : List UInt8) : quotes (a ++ b) = quotes a + quotes b := by
  induction a with
  | nil => simp [quotes]
  | cons c r ih => by_cases h : c = 34 <;> simp [quotes, h, ih] <;> omega
theorem length_enc (l : List UInt8) : (enc l).length = l.length + if special l then quotes l + 2 else 0 := by
  unfold enc
  split
  · simp [length_esc]; omega
  · simp
theorem length_enc_le (l : List UInt8) : (enc l).length ≤ 2 * l.length + 2 := by
  have := length_enc l
  have := quotes_le l
  split at * <;> omega
theorem special_append (a b : List UInt8) : special (a ++ b) = (special a || special b) := by simp [special]

theorem u8_eq (c d : UInt8) : c = d ↔ (c.toNat : Int) = (d.toNat : Int) := by
  rw [Int.ofNat_inj]; exact UInt8.toNat_inj.symm
theorem sp_iff (c : UInt8) : sp c = true ↔ ((c.toNat : Int) = 44 ∨ (c.toNat : Int) = 34 ∨ (c.toNat : Int) = 13 ∨ (c.toNat : Int) = 10) := by
  have h1 := u8_eq c 44
  have h2 := u8_eq c 34
  have h3 := u8_eq c 13
  have h4 := u8_eq c 10
  simp only [sp, Bool.or_eq_true, beq_iff_eq, h1, h2, h3, h4, or_assoc]
  exact Iff.rfl
theorem eq34 (c : UInt8) : c = 34 ↔ (c.toNat : Int) = 34 := u8_eq c 34
theorem sp_false (c : UInt8) (h : sp c = false) : (c.toNat : Int) ≠ 44 ∧ (c.toNat : Int) ≠ 34 ∧ (c.toNat : Int) ≠ 13 ∧ (c.toNat : Int) ≠ 10 := by
  have := sp_iff c
  rw [h] at this
  simp only [Bool.false_eq_true, false_iff, not_or] at this
  exact this
theorem toNat_bd (c : UInt8) : 0 ≤ (c.toNat : Int) ∧ (c.toNat : Int) ≤ 255 := by
  have := c.toNat_lt
  omega

theorem take_snoc (l : List UInt8) (k : Nat) (h : k < l.length) : l.take (k + 1) = l.take k ++ [l[k]] :=
  List.take_succ_eq_append_getElem h
theorem special_snoc (l : List UInt8) (k : Nat) (h : k < l.length) : special (l.take (k + 1)) = (special (l.take k) || sp l[k]) := by
  rw [take_snoc l k h, special_append]; simp [special]
theorem special_of_take (l : List UInt8) (k : Nat) (h : special (l.take k) = true) : special l = true := by
  have e := special_append (l.take k) (l.drop k)
  rw [List.take_append_drop, h] at e
  simpa using e
theorem special_at (l : List UInt8) (k : Nat) (h : k < l.length) (hs : sp l[k] = true) : special l = true :=
  special_of_take l (k + 1) (by rw [special_snoc l k h, hs]; simp)
theorem special_all (l : List UInt8) (k : Nat) (h : l.length ≤ k) (hs : special (l.take k) = false) : special l = false := by
  rwa [List.take_of_length_le h] at hs
theorem special_get (l : List UInt8) (h : special l = false) (k : Nat) (hk : k < l.length) : sp l[k] = false := by
  by_cases hs : sp l[k] = true
  · rw [special_at l k hk hs] at h; cases h
  · simpa using hs
theorem quotes_snoc (l : List UInt8) (k : Nat) (h : k < l.length) : quotes (l.take (k + 1)) = quotes (l.take k) + if l[k] = 34 then 1 else 0 := by
  rw [take_snoc l k h, quotes_append]; simp [quotes]
theorem esc_snoc (l : List UInt8) (k : Nat) (h : k < l.length) : esc (l.take (k + 1)) = esc (l.take k) ++ if l[k] = 34 then [34, 34] else [l[k]] := by
  rw [take_snoc l k h, esc_append]
  by_cases h34 : l[k] = 34 <;> simp [esc, h34]

/-! ### Rows of fields -/
/-- The fields with commas between. -/
def rowBody : List (List UInt8) → List UInt8
  | [] => []
  | f :: fs => enc f ++ fs.flatMap (fun g => 44 :: enc g)
theorem rowBody_snoc (fs : List (List UInt8)) (f : List UInt8) : rowBody (fs ++ [f]) = rowBody fs ++ ((if fs.length = 0 then [] else [44]) ++ enc f) := by
  cases fs with
  | nil => simp [rowBody]
  | cons g gs => simp [rowBody]
/-- What stands behind a field: LF, or a comma and the other fields. -/
def rowTail : List (List UInt8) → List UInt8
  | [] => [10]
  | f :: fs => 44 :: (rowBody (f :: fs) ++ [10])
theorem rowBody_cons (f : List UInt8) (fs : List (List UInt8)) : rowBody (f :: fs) ++ [10] = enc f ++ rowTail fs := by
  cases fs with
  | nil => simp [rowBody, rowTail]
  | cons g gs => simp [rowBody, rowTail]
def rowSize : List (List UInt8) → Nat
  | [] => 0
  | f :: fs => f.length + rowSize fs
theorem rowSize_append (a b : List (List UInt8)) : rowSize (a ++ b) = rowSize a + rowSize b := by
  induction a with
  | nil => simp [rowSize]
  | cons c r ih => simp [rowSize, ih]; omega
theorem length_rowBody_le (fs : List (List UInt8)) : (rowBody fs).length ≤ 2 * rowSize fs + 3 * fs.length := by
  cases fs with
  | nil => simp [rowBody, rowSize]
  | cons f fs =>
    have h1 := length_enc_le f
    have h2 : (fs.flatMap (fun g => 44 :: enc g)).length ≤ 2 * rowSize fs + 3 * fs.length := by
      induction fs with
      | nil => simp [rowSize]
      | cons g gs ih =>
        have := length_enc_le g
        simp only [List.flatMap_cons, List.length_append, List.length_cons, rowSize]
        omega
    simp only [rowBody, rowSize, List.length_append, List.length_cons]
    omega
end Go.Proofs.Qxb6002785aMods.Plain
