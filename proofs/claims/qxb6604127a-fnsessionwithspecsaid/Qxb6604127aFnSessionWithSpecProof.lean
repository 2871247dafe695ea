/-
  THE PROOF OF THE GIVEN STATEMENT, out of the walk.
-/
import Derived.Test.Qxb6604127aRows
import Derived.Test.Qxb6604127aSpecSWalk
import Derived.WalkKit
import Derived.ProofKit
import Derived.OpenShut
import Derived.ShutString
import Derived.ChangeOld
import Derived.Below
import Derived.Deep.Slices
namespace Go.Proofs.Qxb6604127a.fnSessionWithSpec
open Go.ChangeShapes Go.WideShapes Go.ChangeAt Go.RowKit
open Go.Proofs.Qxb6604127a
set_option linter.unusedVariables false

theorem own : ownKnob Try.prog.godebug = none := by kernel_rfl
theorem laidOut : laidOutB Try.prog = true := by kernel_rfl
theorem cells2 : Try.prog.cellsOf 2 = 1 := by kernel_rfl
theorem cells3 : Try.prog.cellsOf 3 = 1 := by kernel_rfl
theorem cells4 : Try.prog.cellsOf 4 = 1 := by kernel_rfl
theorem cells31 : Try.prog.cellsOf 31 = 1 := by kernel_rfl
theorem cells33 : Try.prog.cellsOf 33 = 12 := by kernel_rfl
theorem cells39 : Try.prog.cellsOf 39 = 13 := by kernel_rfl

section
variable {H : Type} {enc : TypeId × Value → H} {w : World} {base : Nat} {spare : Nat → Bool} {held : Bool}

theorem res_of {fuel : Nat} {cs : List Value} {x : DataW H × List MemPlace} (h : DataW.trod enc Try.prog w base spare held fuel 33 cs = some x) : IsRes cs := by
  obtain ⟨xs, n, _, _, hl, hlen, hf⟩ := DataW.trod_struct Try.underlying33 h
  rw [cells33] at hl
  obtain ⟨c0, c1, c2, c3, c4, c5, c6, c7, c8, c9, c10, c11, rfl⟩ := list12 hl
  have hlen' : xs.length = 12 := hlen
  have fld : ∀ (i : Nat) (f : Field), DataW.trod enc Try.prog w base spare held n f.type (([c0, c1, c2, c3, c4, c5, c6, c7, c8, c9, c10, c11].drop f.offset).take (Try.prog.cellsOf f.type)) = xs[i]? → i < 12 →
      ∀ (ty : TypeId) (off : Nat), f.type = ty → f.offset = off → ∃ v, DataW.trod enc Try.prog w base spare held n ty (([c0, c1, c2, c3, c4, c5, c6, c7, c8, c9, c10, c11].drop off).take (Try.prog.cellsOf ty)) = some v := by
    intro i f h hi ty off e1 e2
    subst e1 e2
    rw [List.getElem?_eq_getElem (by omega)] at h
    exact ⟨_, h⟩
  obtain ⟨s0, g0⟩ := fld 0 _ (hf 0 _ rfl) (by omega) 2 0 rfl rfl
  obtain ⟨z0, q0, _, _⟩ := DataW.trod_int Try.underlying2 g0
  simp only [cells2, List.drop_zero, List.take_succ_cons, List.take_zero, List.cons.injEq, and_true] at q0
  obtain ⟨s1, g1⟩ := fld 1 _ (hf 1 _ rfl) (by omega) 3 1 rfl rfl
  obtain ⟨z1, q1, _, _⟩ := DataW.trod_int Try.underlying3 g1
  simp only [cells3, List.drop_succ_cons, List.drop_zero, List.take_succ_cons, List.take_zero, List.cons.injEq, and_true] at q1
  obtain ⟨s2, g2⟩ := fld 2 _ (hf 2 _ rfl) (by omega) 4 2 rfl rfl
  obtain ⟨b2, q2, _⟩ := DataW.trod_bool Try.underlying4 g2
  simp only [cells4, List.drop_succ_cons, List.drop_zero, List.take_succ_cons, List.take_zero, List.cons.injEq, and_true] at q2
  obtain ⟨s3, g3⟩ := fld 3 _ (hf 3 _ rfl) (by omega) 4 3 rfl rfl
  obtain ⟨b3, q3, _⟩ := DataW.trod_bool Try.underlying4 g3
  simp only [cells4, List.drop_succ_cons, List.drop_zero, List.take_succ_cons, List.take_zero, List.cons.injEq, and_true] at q3
  obtain ⟨s4, g4⟩ := fld 4 _ (hf 4 _ rfl) (by omega) 4 4 rfl rfl
  obtain ⟨b4, q4, _⟩ := DataW.trod_bool Try.underlying4 g4
  simp only [cells4, List.drop_succ_cons, List.drop_zero, List.take_succ_cons, List.take_zero, List.cons.injEq, and_true] at q4
  obtain ⟨s5, g5⟩ := fld 5 _ (hf 5 _ rfl) (by omega) 2 5 rfl rfl
  obtain ⟨z5, q5, _, _⟩ := DataW.trod_int Try.underlying2 g5
  simp only [cells2, List.drop_succ_cons, List.drop_zero, List.take_succ_cons, List.take_zero, List.cons.injEq, and_true] at q5
  obtain ⟨s6, g6⟩ := fld 6 _ (hf 6 _ rfl) (by omega) 4 6 rfl rfl
  obtain ⟨b6, q6, _⟩ := DataW.trod_bool Try.underlying4 g6
  simp only [cells4, List.drop_succ_cons, List.drop_zero, List.take_succ_cons, List.take_zero, List.cons.injEq, and_true] at q6
  obtain ⟨s7, g7⟩ := fld 7 _ (hf 7 _ rfl) (by omega) 2 7 rfl rfl
  obtain ⟨z7, q7, _, _⟩ := DataW.trod_int Try.underlying2 g7
  simp only [cells2, List.drop_succ_cons, List.drop_zero, List.take_succ_cons, List.take_zero, List.cons.injEq, and_true] at q7
  obtain ⟨s8, g8⟩ := fld 8 _ (hf 8 _ rfl) (by omega) 2 8 rfl rfl
  obtain ⟨z8, q8, _, _⟩ := DataW.trod_int Try.underlying2 g8
  simp only [cells2, List.drop_succ_cons, List.drop_zero, List.take_succ_cons, List.take_zero, List.cons.injEq, and_true] at q8
  obtain ⟨s9, g9⟩ := fld 9 _ (hf 9 _ rfl) (by omega) 2 9 rfl rfl
  obtain ⟨z9, q9, _, _⟩ := DataW.trod_int Try.underlying2 g9
  simp only [cells2, List.drop_succ_cons, List.drop_zero, List.take_succ_cons, List.take_zero, List.cons.injEq, and_true] at q9
  obtain ⟨s10, g10⟩ := fld 10 _ (hf 10 _ rfl) (by omega) 4 10 rfl rfl
  obtain ⟨b10, q10, _⟩ := DataW.trod_bool Try.underlying4 g10
  simp only [cells4, List.drop_succ_cons, List.drop_zero, List.take_succ_cons, List.take_zero, List.cons.injEq, and_true] at q10
  obtain ⟨s11, g11⟩ := fld 11 _ (hf 11 _ rfl) (by omega) 4 11 rfl rfl
  obtain ⟨b11, q11, _⟩ := DataW.trod_bool Try.underlying4 g11
  simp only [cells4, List.drop_succ_cons, List.drop_zero, List.take_succ_cons, List.take_zero, List.cons.injEq, and_true] at q11
  exact ⟨z0, z1, z5, z7, z8, z9, b2, b3, b4, b6, b10, b11, by simp only [q0, q1, q2, q3, q4, q5, q6, q7, q8, q9, q10, q11]⟩

theorem req_of {fuel : Nat} {cs : List Value} {x : DataW H × List MemPlace} (h : DataW.trod enc Try.prog w base spare held fuel 39 cs = some x) : ∃ (i : Int) (V : List Value), cs = .int .u64 i :: V ∧ IsRes V := by
  obtain ⟨y0, y1, n, _, hl, h0, h1⟩ := trod_struct2 Try.underlying39 h
  rw [cells39] at hl
  obtain ⟨c, V, rfl⟩ : ∃ c V, cs = c :: V := by
    cases cs with
    | nil => simp at hl
    | cons c V => exact ⟨c, V, rfl⟩
  have hV : V.length = 12 := by simpa using hl
  simp only [cells31, cells33, List.drop_zero, List.take_succ_cons, List.take_zero, List.drop_succ_cons] at h0 h1
  rw [List.take_of_length_le (by omega)] at h1
  obtain ⟨i, e, _, _⟩ := DataW.trod_int Try.underlying31 h0
  simp only [List.cons.injEq, and_true] at e
  subst e
  exact ⟨i, V, rfl, res_of h1⟩
end

set_option maxRecDepth 100000 in
theorem lifted (os : Os) (started : os.Started) (H : Type) (enc : TypeId × Value → H) :
    ReturnsInHanded {} Try.checked os 5 .any (Rows.fnSessionWithSpecSpec.pre6 enc Try.prog Try.f5 Rows.fnSessionWithSpecRow.domain false) (Rows.fnSessionWithSpecSpec.post enc Try.prog Try.f5 false true false false) := by
  refine returnsInHanded_of_change (C := Try.checked) own started (by kernel_rfl) Try.func5
    (ChangeSpec.witness6 (enc := enc) (C := Try.checked) false ⟨#[], #[.slice none 0 0, .int .i64 0, .int .u64 0, .agg #[.int .i64 0, .int .i64 0, .bool false, .bool false, .bool false, .int .i64 0, .bool false, .int .i64 0, .int .i64 0, .int .i64 0, .bool false, .bool false]], []⟩ 8 (by kernel_rfl) (by kernel_rfl) (by kernel_rfl) (by kernel_rfl)) ?_
  intro W base args ds gs before hval0 hW hcnd _
  have hval : ∀ (j : Nat) t v, Try.f5.params[j]? = some t → args[j]? = some v → Value.okWide Try.prog W .any base t v := hval0
  have hW' := hW
  obtain ⟨p, q, hA0, hV, rfl, hfz, hnd⟩ := hW
  have hA : DataW.TrodAll enc Try.prog W 0 (fun _ => true) true Try.f5.params.toList args.toList ds p := hA0
  rw [Try.params5] at hA hval
  obtain ⟨v0, vs0, d0, ds0, p0, q0, hargs, rfl, rfl, h0, r0⟩ := trodAll_cons hA
  obtain ⟨v1, vs1, d1, ds1, p1, q1, rfl, rfl, rfl, h1, r1⟩ := trodAll_cons r0
  obtain ⟨v2, vs2, d2, ds2, p2, q2, rfl, rfl, rfl, h2, r2⟩ := trodAll_cons r1
  obtain ⟨v3, vs3, d3, ds3, p3, q3, rfl, rfl, rfl, h3, r3⟩ := trodAll_cons r2
  obtain ⟨rfl, rfl, rfl⟩ := trodAll_nil r3
  obtain rfl : args = #[v0, v1, v2, v3] := by cases args; simp_all
  obtain ⟨rfl, rfl⟩ := trodVars_none hV
  have lt : ∀ {t v d ps}, DataW.Trod enc Try.prog W 0 (fun _ => true) true t v d ps → ∀ x ∈ ps, x.block < W.heap.size := fun h => by obtain ⟨m, hm⟩ := h; exact DataW.trod_lt m _ _ _ hm
  have lt0 := lt h0
  have lt1 := lt h1
  have lt2 := lt h2
  have lt3 := lt h3
  obtain ⟨a0, len0, cap0, rfl⟩ := okWide_slice Try.underlying30 (hval 0 30 v0 rfl rfl)
  obtain ⟨z, rfl⟩ : ∃ z : Int, v1 = .int .i64 z := by
    obtain ⟨z, e, _⟩ := open_int Try.underlying3 (hval 1 3 v1 rfl rfl) h1
    exact ⟨z, e⟩
  obtain ⟨x, rfl⟩ : ∃ x : Int, v2 = .int .u64 x := by
    obtain ⟨x, e, _⟩ := open_int Try.underlying31 (hval 2 31 v2 rfl rfl) h2
    exact ⟨x, e⟩
  obtain ⟨V, rfl, hVr⟩ : ∃ V : List Value, v3 = .agg V.toArray ∧ IsRes V := by
    obtain ⟨cs, rfl, hsz⟩ := okWide_struct Try.underlying33 (hval 3 33 v3 rfl rfl)
    obtain ⟨m, hm⟩ := h3
    exact ⟨cs.toList, by simp, res_of (by simpa [Value.cells] using hm)⟩
  obtain ⟨I, R, w0⟩ : ∃ I R, IsReqs W a0 len0 cap0 I R := by
    obtain ⟨fuel, hf⟩ := h0
    rcases Deep.open_slice Try.underlying30 hf with ⟨hcs, _⟩ | ⟨y, l, c, m, n, D, Pl, hcs, _, hl, hm, hmm, _, hel⟩
    · simp [Value.cells] at hcs
      exact ⟨fun _ => 0, fun _ => [], .inl ⟨hcs.1, hcs.2.1, hcs.2.2⟩⟩
    · simp [Value.cells] at hcs
      obtain ⟨rfl, rfl, rfl⟩ := hcs
      have key : ∀ k, ∃ q : Int × List Value, k < len0 → IsRes q.2 ∧ ∀ t v, (Value.int .u64 q.1 :: q.2)[t]? = some v → W.cell? (y.add (k * 13 + t)) = some v := by
        intro k
        by_cases hk : k < len0
        · obtain ⟨cs', h1, h2⟩ := hel k (by rw [hmm]; simp; omega)
          obtain ⟨i, V, rfl, hV⟩ := req_of h2
          rw [cells39] at h1
          obtain ⟨_, hlen, hcell⟩ := World.cells?_some h1
          refine ⟨(i, V), fun _ => ⟨hV, fun t v hv => ?_⟩⟩
          have ht : t < 13 := by
            have := (List.getElem?_eq_some_iff.1 hv).1
            rw [← hlen]; exact this
          have := hcell t ht
          rw [Deep.add_add, hv] at this
          exact this
        · exact ⟨(0, []), fun h => absurd h hk⟩
      obtain ⟨f, hf⟩ := Classical.axiomOfChoice key
      exact ⟨fun k => (f k).1, fun k => (f k).2, .inr ⟨y, rfl, hl, hm, fun k hk => (hf k hk).1, fun k hk => (hf k hk).2⟩⟩
  clear hA0 hval0
  refine (spec_walk a0 len0 cap0 z x V I R W w0 hVr).mono fun e W' ⟨he, bel⟩ => ?_
  subst he
  exact ⟨_, rfl, _, _, _, [], _, [], hW', trodAll_mk1 (shut_bool Try.underlying4 _),
    (trodAll_cons_mk (Below.trod laidOut (by kernel_rfl) (of_decide_eq_true (by kernel_rfl)) h0 bel lt0)
    (trodAll_cons_mk (Below.trod laidOut (by kernel_rfl) (of_decide_eq_true (by kernel_rfl)) h1 bel lt1)
    (trodAll_cons_mk (Below.trod laidOut (by kernel_rfl) (of_decide_eq_true (by kernel_rfl)) h2 bel lt2)
    (trodAll_cons_mk (Below.trod laidOut (by kernel_rfl) (of_decide_eq_true (by kernel_rfl)) h3 bel lt3) trodAll_mk0)))), rfl, bel.frame _, fun h => by cases h⟩

theorem over : Rows.fnSessionWithSpecRow.holds Try.pinned (OpenSpec.ofChange Rows.fnSessionWithSpecSpec) :=
  OpenClaim.holds_of_wide 5 Try.f5 rfl rfl rfl rfl rfl rfl rfl ⟨rfl, rfl, rfl, rfl, rfl⟩ rfl rfl rfl rfl rfl (by kernel_rfl) Try.func5 (by kernel_rfl)
    (of_decide_eq_true (by kernel_rfl)) (by unfold Func.isWrapper; first | (rw [if_pos (by decide +kernel)]; kernel_rfl) | (rw [if_neg (by decide +kernel)]; exact ⟨rfl, rfl⟩))
    (fun os started H enc _ => lifted os started H enc)

/-- THE STATEMENT. -/
theorem proved : Rows.FnSessionWithSpecSaid := over
end Go.Proofs.Qxb6604127a.fnSessionWithSpec
