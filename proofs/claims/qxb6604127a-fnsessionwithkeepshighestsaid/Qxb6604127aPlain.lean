/-
  THE PLAIN LAW OF A JSON STRING, WRITTEN: no Go in sight.
-/
namespace Go.Proofs.Qxb6604127a.Pl

def hexL : List UInt8 := [48, 49, 50, 51, 52, 53, 54, 55, 56, 57, 97, 98, 99, 100, 101, 102]

/-- One byte of the text, as the JSON string bears it. -/
def esc1 (c : UInt8) : List UInt8 :=
  if c = 34 ∨ c = 92 then [92, c] else if c.toNat < 32 then [92, 117, 48, 48, hexL.getD (c.toNat / 16) 0, hexL.getD (c.toNat % 16) 0] else [c]

def esc : List UInt8 → List UInt8
  | [] => []
  | c :: r => esc1 c ++ esc r

def quote (s : List UInt8) : List UInt8 := 34 :: (esc s ++ [34])

theorem esc_append (a b : List UInt8) : esc (a ++ b) = esc a ++ esc b := by
  induction a with
  | nil => rfl
  | cons c r ih => simp [esc, ih]

theorem esc_one (c : UInt8) : esc [c] = esc1 c := by simp [esc]

theorem esc1_len (c : UInt8) : 1 ≤ (esc1 c).length ∧ (esc1 c).length ≤ 6 := by
  unfold esc1; split
  · simp
  · split <;> simp

theorem esc_len (s : List UInt8) : s.length ≤ (esc s).length ∧ (esc s).length ≤ 6 * s.length := by
  induction s with
  | nil => simp [esc]
  | cons c r ih => have := esc1_len c; simp [esc]; omega

theorem quote_len (s : List UInt8) : s.length + 2 ≤ (quote s).length ∧ (quote s).length ≤ 6 * s.length + 2 := by
  have := esc_len s; simp [quote]; omega

/-- THE LAW: quoting a concatenation is the two quotings glued at the seam. -/
theorem quote_append (a b : List UInt8) : quote (a ++ b) = (quote a).take ((quote a).length - 1) ++ (quote b).drop 1 := by
  have h : (quote a).take ((quote a).length - 1) = 34 :: esc a := by
    have e : quote a = (34 :: esc a) ++ [34] := by simp [quote]
    rw [e, List.take_append_of_le_length (by simp)]
    exact List.take_of_length_le (by simp)
  rw [h]; simp [quote, esc_append]

theorem esc1_plain (c : UInt8) (h1 : c ≠ 34) (h2 : c ≠ 92) (h3 : 32 ≤ c.toNat) : esc1 c = [c] := by
  unfold esc1; rw [if_neg (by simp [h1, h2]), if_neg (by omega)]

theorem esc1_mark (c : UInt8) (h : c = 34 ∨ c = 92) : esc1 c = [92, c] := by
  unfold esc1; rw [if_pos h]

theorem esc1_ctl (c : UInt8) (h : c.toNat < 32) : esc1 c = [92, 117, 48, 48, hexL.getD (c.toNat / 16) 0, hexL.getD (c.toNat % 16) 0] := by
  unfold esc1
  rw [if_neg, if_pos h]
  rintro (rfl | rfl) <;> simp at h

end Go.Proofs.Qxb6604127a.Pl
