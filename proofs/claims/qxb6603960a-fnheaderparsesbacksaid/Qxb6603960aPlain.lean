/-
  THE PLAIN LAW OF QUOTING: no Go in sight.
-/
namespace Go.Proofs.Qxb6603960a.Pl

/-- One byte of the text, as the quoted-string bears it. -/
def esc1 (c : UInt8) : List UInt8 := if c = 34 ∨ c = 92 then [92, c] else [c]

def esc : List UInt8 → List UInt8
  | [] => []
  | c :: r => esc1 c ++ esc r

def quote (s : List UInt8) : List UInt8 := 34 :: (esc s ++ [34])

theorem esc_append (a b : List UInt8) : esc (a ++ b) = esc a ++ esc b := by
  induction a with
  | nil => rfl
  | cons c r ih => simp [esc, ih]

theorem esc1_len (c : UInt8) : 1 ≤ (esc1 c).length ∧ (esc1 c).length ≤ 2 := by
  unfold esc1; split <;> simp

theorem esc_len (s : List UInt8) : s.length ≤ (esc s).length ∧ (esc s).length ≤ 2 * s.length := by
  induction s with
  | nil => simp [esc]
  | cons c r ih => have := esc1_len c; simp [esc]; omega

theorem quote_len (s : List UInt8) : s.length + 2 ≤ (quote s).length ∧ (quote s).length ≤ 2 * s.length + 2 := by
  have := esc_len s; simp [quote]; omega

/-- THE LAW: quoting a concatenation is the two quotings glued at the seam. -/
theorem quote_append (a b : List UInt8) : quote (a ++ b) = (quote a).take ((quote a).length - 1) ++ (quote b).drop 1 := by
  have h : (quote a).take ((quote a).length - 1) = 34 :: esc a := by
    have e : quote a = (34 :: esc a) ++ [34] := by simp [quote]
    rw [e, List.take_append_of_le_length (by simp)]
    exact List.take_of_length_le (by simp)
  rw [h]; simp [quote, esc_append]

end Go.Proofs.Qxb6603960a.Pl
