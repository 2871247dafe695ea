/-
  THE WALK OF store.session.with.
-/
import Derived.Test.Qxb6604127aDelWalk
import Derived.Great.BuildSlice
namespace Go.Proofs.Qxb6604127a
open Go.RowKit

theorem list12 {R : List Value} (h : R.length = 12) : ∃ a b c d e f g h i j k l, R = [a, b, c, d, e, f, g, h, i, j, k, l] := by
  match R, h with
  | [a, b, c, d, e, f, g, h, i, j, k, l], _ => exact ⟨a, b, c, d, e, f, g, h, i, j, k, l, rfl⟩

theorem build55 (x : Int) (R : List Value) (h : R.length = 12) (w : World) : (Instr.build 55 #[(0, .int .u64 x), (1, .agg R.toArray)]).run Try.prog w = .ok (.agg (Value.int .u64 x :: R).toArray) w := by
  obtain ⟨a, b, c, d, e, f, g, h, i, j, k, l, rfl⟩ := list12 h
  exact run_build w 55 _ _ (by kernel_rfl)

theorem slice55 (x : Int) (R : List Value) (h : R.length = 12) (w : World) : (Instr.buildSlice 52 1 #[(0, .agg (Value.int .u64 x :: R).toArray)]).run Try.prog w = .ok (.slice (some ⟨w.heap.size, 0, none⟩) 1 1) (w.alloc (.cells (Value.int .u64 x :: R).toArray 55)) := by
  obtain ⟨a, b, c, d, e, f, g, h, i, j, k, l, rfl⟩ := list12 h
  obtain ⟨i0, hi0, hz0, hz1, hz2⟩ := info_parts Try.info55
  refine run_buildSlice w 52 55 1 _ _ i0 zreq Try.underlying52 hi0 hz0 (by omega) (by omega) ?_
  rw [hz1]
  kernel_rfl

theorem Try.size41 : (Try.prog.info? 41).map (·.size) = some 12 := by kernel_rfl

theorem load41 (w : World) (b o : Nat) (R : List Value) (hR : R.length = 12) (hc : w.rangeAt b o R) : (Instr.loadAt 41 (.pointer (some ⟨b, o, none⟩))).run Try.prog w = .ok (.agg R.toArray) w :=
  run_loadAt_mid w b o 41 R _ hc Try.underlying41 rfl (by rw [hR]; exact Try.size41)

theorem range_alloc_new (w : World) (R : List Value) (T : TypeId) : (w.alloc (.cells R.toArray T)).rangeAt w.heap.size 0 R := by
  intro j v hv
  rw [Nat.zero_add, World.cell?_alloc_at (w := w) R.toArray T w.heap.size j rfl, ← hv, List.getElem?_toArray]

theorem lt_alloc0 (w : World) (o : Obj) : w.heap.size < (w.alloc o).heap.size := (Array.getElem?_eq_some_iff.1 (heap_alloc_new w o)).1

set_option maxHeartbeats 4000000 in
set_option maxRecDepth 100000 in
theorem with_walk (b n i : Nat) (x : Int) (E : Nat → List Value) (R : List Value) (w : World) (hR : Row w b n n E) (hG : Good n E) (hRl : R.length = 12) (hR1 : ∀ v ∈ R, v.oneCell' = true) (hn : n ≤ 10000) (hin : i ≤ n) (d : Nat) (hd : (n + 1 ≤ 1000 ∧ d = 0) ∨ (1000 < n + 1 ∧ d = 1)) :
    Calls Try.prog 24 #[.slice (some ⟨b, 0, none⟩) n n, .int .i64 i, .int .u64 x, .agg R.toArray] w fun e w' =>
      ∃ g cap, e = .returned (.slice (some ⟨g, 0, none⟩) (n + 1 - d) cap) ∧ Row w' g (n + 1 - d) cap (fun k => ins E i (Value.int .u64 x :: R) (k + d)) ∧ w.heap.size ≤ g ∧ Below w.heap.size w w' := by
  have hVl : (Value.int .u64 x :: R).length = 13 := by simp [hRl]
  have hV1 : ∀ v ∈ Value.int .u64 x :: R, v.oneCell' = true := by
    intro v hv
    rcases List.mem_cons.1 hv with rfl | h
    · rfl
    · exact hR1 v h
  obtain ⟨r0, r1, r2, r3, r4, r5, r6, r7, r8, r9, r10, r11, rfl⟩ := list12 hRl
  have hB1 : Below w.heap.size w (w.alloc (.cells #[r0, r1, r2, r3, r4, r5, r6, r7, r8, r9, r10, r11] 41)) := (Below.refl _ w).alloc (Nat.le_refl _) _
  have hsz : (w.alloc (.cells #[r0, r1, r2, r3, r4, r5, r6, r7, r8, r9, r10, r11] 41)).heap.size = w.heap.size + 1 := by simp
  have hB2 : Below w.heap.size w ((w.alloc (.cells #[r0, r1, r2, r3, r4, r5, r6, r7, r8, r9, r10, r11] 41)).alloc (.cells #[.int .u64 x, r0, r1, r2, r3, r4, r5, r6, r7, r8, r9, r10, r11] 55)) := hB1.alloc (by omega) _
  have hsz2 : ((w.alloc (.cells #[r0, r1, r2, r3, r4, r5, r6, r7, r8, r9, r10, r11] 41)).alloc (.cells #[.int .u64 x, r0, r1, r2, r3, r4, r5, r6, r7, r8, r9, r10, r11] 55)).heap.size = w.heap.size + 2 := by simp
  have hV := range_alloc_new (w.alloc (.cells #[r0, r1, r2, r3, r4, r5, r6, r7, r8, r9, r10, r11] 41)) [.int .u64 x, r0, r1, r2, r3, r4, r5, r6, r7, r8, r9, r10, r11] 55
  rw [hsz] at hV
  have hI := fun W2 (hB2 : Below w.heap.size w W2) (hs : W2.heap.size = w.heap.size + 2) hV => insert_walk b n (w.heap.size + 1) i E [.int .u64 x, r0, r1, r2, r3, r4, r5, r6, r7, r8, r9, r10, r11] W2 (hR.below hB2 hR.lt) hG hV (by omega) hVl hV1 (by omega) hin
  have hH := hI _ hB2 hsz2 hV
  have hGI : Hid (Good (n + 1) (ins E i [.int .u64 x, r0, r1, r2, r3, r4, r5, r6, r7, r8, r9, r10, r11])) := ins_good hG hVl hV1 hin
  have hB2' := hid hB2
  have hsz2' := hid hsz2
  generalize ins E i [.int .u64 x, r0, r1, r2, r3, r4, r5, r6, r7, r8, r9, r10, r11] = E' at hH hGI ⊢
  clear hI hV hB2 hsz2 hsz hB1 hVl hV1 hR1 hRl hR hG hin
  go_enter Try.func24, Try.ntmps24
  go_wp2_with fail
  refine hH.mono ?_
  rintro e w' ⟨cap, rfl, hR', hc, hB'⟩
  clear hH
  rw [hsz2'.out] at hR' hB' ⊢
  rcases hd with ⟨hd, rfl⟩ | ⟨hd, rfl⟩
  · have ht : decide ((1000 : Int) < (n : Int) + 1) = false := by simp; omega
    have ht2 : ¬ ((1000 : Int) < (n : Int) + 1) := by omega
    go_wp2_with fail
    go_ret
    exact ⟨_, cap, rfl, hR', by omega, hB2'.out.trans (hB'.mono (by omega))⟩
  · have ht : decide ((1000 : Int) < (n : Int) + 1) = true := by simp; omega
    have ht2 : ((1000 : Int) < (n : Int) + 1) := by omega
    have hD := delete_walk _ n cap E' w' hR' hGI.out (by omega) (by omega)
    go_wp2_with fail
    refine hD.mono ?_
    rintro e w'' ⟨rfl, hR'', hB''⟩
    clear hD
    go_wp2_with fail
    go_ret
    exact ⟨_, cap, rfl, hR'', by omega, (hB2'.out.trans (hB'.mono (by omega))).trans (hB''.mono (by omega))⟩
end Go.Proofs.Qxb6604127a
