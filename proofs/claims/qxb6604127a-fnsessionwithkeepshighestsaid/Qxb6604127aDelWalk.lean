/-
  THE WALK OF slices.Delete(s, 0, 1).
-/
import Derived.Test.Qxb6604127aInsWalk
namespace Go.Proofs.Qxb6604127a
open Go.RowKit

theorem row_tail (w : World) (g n cap : Nat) (E : Nat → List Value) (zs : List Value) (hR : Row w g (n + 1) cap E) (hG : Good (n + 1) E) :
    Row ((w.setCells g 0 (flat E 1 n)).setCells g (n * 13) zs) g n cap (fun k => E (k + 1)) := by
  have hl : (flat E 1 n).length = n * 13 := flat_len E 13 n 1 (fun k hk => hG.len _ (by omega))
  have hcp := hR.cp
  have t1 : w.there g 0 (flat E 1 n).length := there_sub hR.th (by omega) (by rw [hl]; omega)
  have r1 := (range_flat (z := 13) E n 1 0 (fun k hk => hG.len _ (by omega))).1 (World.rangeAt_setCells_same _ _ _ _ t1)
  refine ⟨fun k hk => ?_, World.there_setCells (World.there_setCells hR.th _ _ _) _ _ _, ?_, by omega⟩
  · have := r1 k hk
    rw [Nat.zero_add, Nat.add_comm 1 k] at this
    have hg := hG.len (k + 1) (by omega)
    exact World.rangeAt_setCells_apart this _ _ _ (.inr (.inl (by rw [hg]; omega)))
  · exact Nat.lt_of_lt_of_le hR.lt (below_setCells (B := 0) (Nat.zero_le _) _ _ _ (below_setCells (B := 0) (Nat.zero_le _) _ _ _ (Below.refl _ _))).size

set_option maxHeartbeats 4000000 in
set_option maxRecDepth 100000 in
theorem delete_walk (g n cap : Nat) (E : Nat → List Value) (w : World) (hR : Row w g (n + 1) cap E) (hG : Good (n + 1) E) (hn : 0 < n) (hn2 : n ≤ 100000) :
    Calls Try.prog 26 #[.slice (some ⟨g, 0, none⟩) (n + 1) cap, .int .i64 0, .int .i64 1] w fun e w' =>
      e = .returned (.slice (some ⟨g, 0, none⟩) n cap) ∧ Row w' g n cap (fun k => E (k + 1)) ∧ Below g w w' := by
  obtain ⟨i0, hi0, hz0, hz1, hz2⟩ := info_parts Try.info55
  obtain ⟨f1, f2, f3⟩ := hR.flat hG 1 n (by omega)
  have hcp := hR.cp
  have s0 : Hid (∀ j u, (flat E 1 n)[j]? = some u → w.drew.cell? ((⟨g, 13, none⟩ : Addr).add j) = some u) := fun j u h => by
    rw [Nat.one_mul] at f1
    exact range_add f1 j u h
  have s1 : Hid ((flat E 1 n).length = n * 13) := f2
  have s2 : Hid (∀ u ∈ flat E 1 n, u.oneCell' = true) := f3
  have s3 : Hid (∀ t, t < (flat E 1 n).length → (w.drew.cell? ⟨g, 0 + 0 * 13 + t, none⟩).isSome = true ∧ w.drew.frozen? ⟨g, 0 + 0 * 13 + t, none⟩ = false) := fun t ht => by
    rw [f2] at ht
    have := hR.th t (by omega)
    simpa using this
  have hT := row_tail w g n cap E (Builtin.zeroCells zreq.cells 1).toList hR hG
  have hzv : ∀ w, (zeroValue 55).run Try.prog w = .ok zreq w := fun w => by simp [zeroValue, typeInfo, hi0, hz0]
  have hzo : ∀ v ∈ (Builtin.zeroCells zreq.cells 1).toList, v.oneCell' = true := by
    have : (Builtin.zeroCells zreq.cells 1).toList = zreq.cells.toList := by kernel_rfl
    rw [this]
    intro v hv
    simp only [zreq, Value.cells, List.mem_cons, List.not_mem_nil, or_false] at hv
    rcases hv with rfl | rfl | rfl | rfl | rfl | rfl | rfl | rfl | rfl | rfl | rfl | rfl | rfl <;> rfl
  obtain ⟨W1, hW1⟩ : ∃ W1, W1 = w.drew.setCells g (0 + 0 * 13) (flat E 1 n) := ⟨_, rfl⟩
  have hW : Hid (W1 = w.drew.setCells g (0 + 0 * 13) (flat E 1 n)) := hW1
  have hTh : W1.there g (n * 13) 13 := by rw [hW1]; exact World.there_setCells (there_sub (w := w.drew) (o' := n * 13) (n' := 13) hR.drew.th (by omega) (by omega)) _ _ _
  have hcl : ∀ ty, (Builtin.clear_ #[53] ty #[.slice (some ⟨g, n * 13, none⟩) 1 (cap - n)]).run Try.prog W1 = .ok (.tuple #[]) (W1.setCells g (n * 13) (Builtin.zeroCells zreq.cells 1).toList) := fun ty =>
    run_clear_k W1 53 55 ty zreq Try.underlying53 hzv g (n * 13) 1 (cap - n) (by omega) _ rfl (by rw [show (Builtin.zeroCells zreq.cells 1).toList.length = 13 from by kernel_rfl]; exact hTh) hzo
  have hB : Below g w W1 := by rw [hW1]; exact below_setCells (Nat.le_refl _) _ _ _ (Below.refl _ _).drew
  have hE1 : Hid (Row (W1.setCells g (n * 13) (Builtin.zeroCells zreq.cells 1).toList) g n cap (fun k => E (k + 1))) := by
    rw [hW1, show 0 + 0 * 13 = 0 from rfl, drew_setCells, drew_setCells]; exact hT.drew
  have hB1 : Hid (Below g w (W1.setCells g (n * 13) (Builtin.zeroCells zreq.cells 1).toList)) := below_setCells (Nat.le_refl _) _ _ _ hB
  generalize (Builtin.zeroCells zreq.cells 1).toList = zs at hcl hE1 hB1
  have hc0 : (1 : Int) ≤ (n : Int) + 1 := by omega
  have hc1 : ¬ (cap = 1) := by omega
  have hc2 : 1 ≤ cap := by omega
  have hc3 : ¬ (cap = n) := by omega
  have hc4 : n + 1 ≤ cap := by omega
  clear hT hTh hB f1 f2 f3 hR hG hz0 hz2 hW1
  go_enter Try.func26, Try.ntmps26
  go_wp2_with fail
  go_region_law (refine step_append_room rfl (.tmp 22) (.tmp 25) 53 rfl 55 i0 13 Try.underlying53 hi0 hz1 g 0 0 cap (by simp [Act.eval, Act.put]) ⟨g, 13, none⟩ n (cap - 1) (flat E 1 n) (by simp [Act.eval, Act.put]) s1.out s0.out s2.out (by omega) s3.out ?_; rw [← hW.out])
  go_wp2
  go_ret
  exact ⟨rfl, hE1.out, hB1.out⟩
end Go.Proofs.Qxb6604127a
