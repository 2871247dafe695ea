/-
  THE PLAIN LAW OF THE HEADER: no Go in sight.
-/
import Derived.Test.Qxb6603960aPlain
namespace Go.Proofs.Qxb6603960a.Pl

/-! ### The header -/

/-- The parameters' names, in the header's order. -/
def name : Nat → List UInt8
  | 0 => [117, 115, 101, 114, 110, 97, 109, 101]
  | 1 => [114, 101, 97, 108, 109]
  | 2 => [110, 111, 110, 99, 101]
  | 3 => [117, 114, 105]
  | 4 => [114, 101, 115, 112, 111, 110, 115, 101]
  | 5 => [99, 110, 111, 110, 99, 101]
  | 6 => [97, 108, 103, 111, 114, 105, 116, 104, 109]
  | 7 => [113, 111, 112]
  | 8 => [110, 99]
  | _ => []

/-- The value's text. -/
def val (k : Nat) (v : List UInt8) : List UInt8 := if k < 6 then quote v else v

/-- What stands ahead of a parameter. -/
def pre (k : Nat) : List UInt8 := if k = 0 then [] else [44, 32]

/-- A parameter, with what stands ahead of it; an optional one that is empty is left out. -/
def piece (k : Nat) (v : List UInt8) : List UInt8 := if v = [] ∧ 5 ≤ k then [] else pre k ++ name k ++ 61 :: val k v

def body (V : Nat → List UInt8) : Nat → List UInt8
  | 0 => []
  | k + 1 => body V k ++ piece k (V k)

def digest : List UInt8 := [68, 105, 103, 101, 115, 116, 32]

def header (V : Nat → List UInt8) : List UInt8 := digest ++ body V 9

/-- What follows, from parameter k on. -/
def rest (V : Nat → List UInt8) : Nat → Nat → List UInt8
  | 0, _ => []
  | f + 1, k => piece k (V k) ++ rest V f (k + 1)

theorem body_rest (V : Nat → List UInt8) (f k : Nat) : body V (k + f) = body V k ++ rest V f k := by
  induction f generalizing k with
  | zero => simp [rest]
  | succ f ih =>
    have := ih (k + 1)
    rw [show k + (f + 1) = k + 1 + f from by omega, this]
    simp [body, rest]

theorem header_split (V : Nat → List UInt8) (k : Nat) (h : k ≤ 9) : header V = (digest ++ body V k) ++ rest V (9 - k) k := by
  have := body_rest V (9 - k) k
  rw [show k + (9 - k) = 9 from by omega] at this
  simp [header, this]

theorem rest_piece (V : Nat → List UInt8) (k : Nat) (h : k < 9) : rest V (9 - k) k = piece k (V k) ++ rest V (9 - (k + 1)) (k + 1) := by
  rw [show 9 - k = (9 - (k + 1)) + 1 from by omega]; rfl

theorem name_len (k : Nat) : (name k).length ≤ 9 := by
  unfold name; split <;> simp

theorem piece_len (k : Nat) (v : List UInt8) : (piece k v).length ≤ 2 * v.length + 14 := by
  have h1 := quote_len v
  have h2 := name_len k
  unfold piece
  split
  · simp
  · have h3 : (pre k).length ≤ 2 := by unfold pre; split <;> simp
    have h4 : (val k v).length ≤ 2 * v.length + 2 := by unfold val; split <;> omega
    simp only [List.length_append, List.length_cons]; omega

theorem body_len (V : Nat → List UInt8) (N : Nat) (hV : ∀ k, (V k).length ≤ N) (k : Nat) : (body V k).length ≤ k * (2 * N + 14) := by
  induction k with
  | zero => simp [body]
  | succ k ih =>
    have h1 := piece_len k (V k)
    have h2 := hV k
    simp only [body, List.length_append, Nat.add_mul, Nat.one_mul]; omega

theorem body_pos (V : Nat → List UInt8) (k : Nat) (h : 0 < k) : 0 < (body V k).length := by
  match k, h with
  | k + 1, _ =>
    induction k with
    | zero => simp [body, piece, name]; omega
    | succ k ih => simp only [body, List.length_append] at ih ⊢; have := ih (by omega); omega

end Go.Proofs.Qxb6603960a.Pl
