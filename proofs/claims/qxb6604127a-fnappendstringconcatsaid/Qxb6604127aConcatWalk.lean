/-
  THE WALK OF FnAppendStringConcat.
-/
import Derived.Test.Qxb6604127aEqWalk
import Derived.Lib.Builder
namespace Go.Proofs.Qxb6604127a
open Go.RowKit

theorem news_at {w : World} {g : Nat} {cur : Array Value} {l : List UInt8} {N : Nat} (hg : w.heap[g]? = some (.cells cur 5 (0, 0))) (ht : cur.toList.take N = Lib.byteCells l) (hN : N = l.length) (o : Nat) (m : List UInt8) (hm : ∀ (j : Nat) (c : UInt8), m[j]? = some c → l[o + j]? = some c) :
    ∀ (j : Nat) (u : Value), (Lib.byteCells m)[j]? = some u → w.cell? ((⟨g, o, none⟩ : Addr).add j) = some u := by
  intro j u hu
  have hadd : (⟨g, o, none⟩ : Addr).add j = ⟨g, o + j, none⟩ := by unfold Addr.add; split <;> simp_all
  rw [hadd, Lib.cell_of_heap hg]
  simp only [Lib.byteCells, List.getElem?_map, Option.map_eq_some_iff] at hu
  obtain ⟨c, hc, rfl⟩ := hu
  have h1 := hm j c hc
  have h2 : (cur.toList.take N)[o + j]? = (Lib.byteCells l)[o + j]? := by rw [ht]
  have hlt : o + j < l.length := (List.getElem?_eq_some_iff.1 h1).1
  rw [List.getElem?_take_of_lt (by omega)] at h2
  simp only [Lib.byteCells, List.getElem?_map, h1, Option.map_some] at h2
  simpa using h2

theorem byteCells_one (l : List UInt8) : ∀ v ∈ Lib.byteCells l, v.oneCell' = true := by
  intro v hv
  simp only [Lib.byteCells, List.mem_map] at hv
  obtain ⟨b, _, rfl⟩ := hv
  rfl

theorem cells_at {w : World} {g : Nat} {cur : Array Value} {l : List UInt8} {N : Nat} (hg : w.heap[g]? = some (.cells cur 5 (0, 0))) (ht : cur.toList.take N = Lib.byteCells l) (hN : N = l.length) (o : Nat) :
    ∀ j, o + j < N → w.cell? ⟨g, o + j, none⟩ = some (.int .u8 ((l.getD (o + j) 0).toNat : Int)) := by
  intro j hj
  rw [Lib.cell_of_heap hg]
  have h2 : (cur.toList.take N)[o + j]? = (Lib.byteCells l)[o + j]? := by rw [ht]
  rw [List.getElem?_take_of_lt hj] at h2
  have h3 : l[o + j]? = some (l.getD (o + j) 0) := by
    rw [List.getD_eq_getElem?_getD, List.getElem?_eq_getElem (by omega)]; rfl
  simp only [Lib.byteCells, List.getElem?_map, h3, Option.map_some] at h2
  simpa using h2

set_option maxHeartbeats 4000000 in
set_option maxRecDepth 100000 in
theorem concat_walk (a0 a1 : ByteArray) (w0 : a0.size ≤ maxLen) (w1 : a1.size ≤ maxLen) (w : World) :
    Calls Try.prog 4 #[.string a0, .string a1] w fun e w' => e = .returned (.bool true) ∧ Below w.heap.size w w' := by
  have HB := hid (bytes13 a0 a1 w w0 w1)
  unfold maxLen at w0 w1
  obtain ⟨i0, hi, hz0, hz1, hz2⟩ := info_parts Try.info5
  by_cases h0 : 65536 < a0.size
  · go_enter Try.func4, Try.ntmps4
    go_wp2_with fail
    refine HB.out.mono ?_
    rintro e w' ⟨rfl | rfl, rfl⟩
    all_goals
      go_wp2
      go_ret
      exact ⟨rfl, Below.refl _ _⟩
  by_cases h1 : 65536 < a1.size
  · go_enter Try.func4, Try.ntmps4
    go_wp2_with fail
    refine HB.out.mono ?_
    rintro e w' ⟨rfl | rfl, rfl⟩
    all_goals
      go_wp2
      go_ret
      exact ⟨rfl, Below.refl _ _⟩
  go_enter Try.func4, Try.ntmps4
  go_wp2_with fail
  refine HB.out.mono ?_
  rintro e w' ⟨rfl | rfl, rfl⟩
  · clear HB
    go_wp2_with fail
    have H1 := zzapp_nil (a0 ++ a1) w' (by simp; omega)
    refine H1.mono ?_
    clear H1
    rintro e x1 ⟨g0, cap0, cur0, rfl, p1, p2, p3, p4, p5, b1⟩
    have hq := Pl.quote_append a0.data.toList a1.data.toList
    have l0 := Pl.quote_len a0.data.toList
    have l1 := Pl.quote_len a1.data.toList
    rw [← Lib.size_eq] at l0 l1
    rw [ByteArray.data_append, Array.toList_append] at p3 p5 ⊢
    have hql := congrArg List.length hq
    simp only [List.length_append, List.length_take, List.length_drop] at hql
    generalize hQ0 : Pl.quote (a0.data.toList ++ a1.data.toList) = Q0 at p3 p5 hq hql ⊢
    have HQ0 := hid hQ0
    have P2 := hid p2
    have P5 := hid p5
    have HQ := hid hq
    clear hQ0 p2 p5 hq
    obtain ⟨n0, hn0⟩ : ∃ n0, n0 = Q0.length := ⟨_, rfl⟩
    rw [← hn0] at p3 hql ⊢
    have Hn0 := hid hn0
    clear hn0
    go_wp2_with fail
    have H1 := zzapp_nil a0 x1 (by omega)
    refine H1.mono ?_
    clear H1
    rintro e x2 ⟨g1, cap1, cur1, rfl, q1, q2, q3, q4, q5, b2⟩
    generalize Pl.quote a0.data.toList = Q1 at q2 q3 q5 l0 hql HQ ⊢
    have R2 := hid q2
    have R5 := hid q5
    clear q2 q5
    obtain ⟨k1, hk1⟩ : ∃ k1, k1 + 1 = Q1.length := ⟨Q1.length - 1, by omega⟩
    rw [← hk1] at q3 l0 hql ⊢
    have Hk1 := hid hk1
    clear hk1
    go_wp2_with fail
    have H1 := zzapp_nil a1 x2 (by omega)
    refine H1.mono ?_
    clear H1
    rintro e x3 ⟨g2, cap2, cur2, rfl, r1, r2, r3, r4, r5, b3⟩
    generalize Pl.quote a1.data.toList = Q2 at r2 r3 r5 l1 hql HQ ⊢
    have S2 := hid r2
    have S5 := hid r5
    clear r2 r5
    obtain ⟨k2, hk2⟩ : ∃ k2, k2 + 1 = Q2.length := ⟨Q2.length - 1, by omega⟩
    rw [← hk2] at r3 l1 hql ⊢
    have Hk2 := hid hk2
    clear hk2
    have hn0 : n0 = k1 + k2 := by omega
    have Hn := hid hn0
    clear hn0 hql
    unfold maxLen at p4 q4 r4
    have hcm : ((k1 + k2 : Nat) : Int) = (k1 : Int) + 1 + ((k2 : Int) + 1) - 2 := by omega
    obtain ⟨x4, hmk, own4, gr4⟩ := run_make_own (P := Try.prog) x3 x3.heap.size 22 5 i0 (.int .u8 0) 1 Try.underlying22 hi hz0 hz1 .i64 .i64 (k1 + k2) (by rw [hz2]; omega) (by unfold maxLen; omega) (Nat.le_refl _)
    rw [hcm] at hmk
    have OWN4 := hid own4
    have GR4 := hid gr4
    clear own4 gr4 hcm
    have z3 : g1 < x3.heap.size ∧ g0 < x2.heap.size := by
      have e1 := (Array.getElem?_eq_some_iff.1 R2.out).1
      have e2 := (Array.getElem?_eq_some_iff.1 P2.out).1
      have e3 := b2.size
      have e4 := b3.size
      exact ⟨by omega, by omega⟩
    have z4 : g2 < x3.heap.size := (Array.getElem?_eq_some_iff.1 S2.out).1
    have R3 : Hid (x3.heap[g1]? = some (.cells cur1 5 (0, 0))) := hid ((b3.block g1 (Array.getElem?_eq_some_iff.1 R2.out).1).trans R2.out)
    have P3 : Hid (x3.heap[g0]? = some (.cells cur0 5 (0, 0))) := hid ((b3.block g0 z3.2).trans ((b2.block g0 (Array.getElem?_eq_some_iff.1 P2.out).1).trans P2.out))
    have R4 : Hid (x4.heap[g1]? = some (.cells cur1 5 (0, 0))) := hid ((GR4.out.block g1 z3.1 (by simp)).trans R3.out)
    have S4 : Hid (x4.heap[g2]? = some (.cells cur2 5 (0, 0))) := hid ((GR4.out.block g2 z4 (by simp)).trans S2.out)
    have P4 : Hid (x4.heap[g0]? = some (.cells cur0 5 (0, 0))) := hid ((GR4.out.block g0 (by omega) (by simp)).trans P3.out)
    have z5 : x3.heap.size ≤ x4.heap.size := GR4.out.size
    have NEWS1 := hid (news_at R4.out R5.out rfl 0 (Q1.take k1) (fun j c h => by
      rw [Nat.zero_add]
      rw [List.getElem?_take] at h
      split at h
      · exact h
      · cases h))
    have c1l : (k1 : Int) + 1 - 1 = (k1 : Int) := by omega
    go_wp2_with (at_builtin; refine wpList_append_own _ rfl (.tmp 44) (.tmp 49) 22 rfl x3.heap.size 5 i0 (.int .u8 0) 1 1 Try.underlying22 hi hz0 hz1 hz2 rfl (by decide) _ _ _ rfl OWN4.out ⟨g1, 0, none⟩ k1 cap1 (Lib.byteCells (Q1.take k1)) rfl ?d0 NEWS1.out ?d1 ?d2 ?d3 ?d4 ?_)
    case d0 => rw [Lib.byteCells_length, List.length_take]; have := Hk1.out; omega
    case d1 => exact byteCells_one _
    case d2 => unfold maxLen; omega
    case d3 => omega
    case d4 => exact z5
    intro v5 x5 own5 gr5 _
    have OWN5 := hid own5
    have lt5 := own5.lt
    have P5' : Hid (x5.heap[g0]? = some (.cells cur0 5 (0, 0))) := hid ((gr5.block g0 (by omega) (by simp [Value.ownBlock]; omega)).trans P4.out)
    have S5' : Hid (x5.heap[g2]? = some (.cells cur2 5 (0, 0))) := hid ((gr5.block g2 (by omega) (by simp [Value.ownBlock]; omega)).trans S4.out)
    have z6 : x4.heap.size ≤ x5.heap.size := gr5.size
    have LT5 := hid lt5
    have GR5 := hid gr5
    clear own5 gr5 lt5
    have NEWS2 := hid (news_at S5'.out S5.out rfl 1 (Q2.drop 1) (fun j c h => by rw [List.getElem?_drop] at h; exact h))
    go_wp2_with (at_builtin; refine wpList_append_own _ rfl (.tmp 51) (.tmp 53) 22 rfl x3.heap.size 5 i0 (.int .u8 0) 1 1 Try.underlying22 hi hz0 hz1 hz2 rfl (by decide) _ _ _ rfl OWN5.out ⟨g2, 1, none⟩ k2 (cap2 - 1) (Lib.byteCells (Q2.drop 1)) rfl ?d0 NEWS2.out ?d1 ?d2 ?d3 ?d4 ?_)
    case d0 => rw [Lib.byteCells_length, List.length_drop]; have := Hk2.out; omega
    case d1 => exact byteCells_one _
    case d2 => unfold maxLen; omega
    case d3 => omega
    case d4 => omega
    intro v6 x6 own6 gr6 _
    have OWN6 := hid own6
    have GR6 := hid gr6
    clear own6 gr6
    obtain ⟨g6, cap6, cur6, hv6, e1, e2, e3, e4, e5, e6⟩ : ∃ g6 cap6 cur6, v6 = .slice (some ⟨g6, 0, none⟩) (k1 + k2) cap6 ∧ x3.heap.size ≤ g6 ∧ x6.heap[g6]? = some (.cells cur6 5 (0, 0)) ∧ k1 + k2 ≤ cap6 ∧ cap6 ≤ maxLen ∧ cur6.size = cap6 * 1 ∧ cur6.toList.take ((k1 + k2) * 1) = Lib.byteCells (Q1.take k1) ++ Lib.byteCells (Q2.drop 1) := by
      rcases OWN6.out.2 with ⟨_, h⟩ | ⟨g6, cap6, cur6, h⟩
      · omega
      · exact ⟨g6, cap6, cur6, by rw [List.drop_one]; exact h⟩
    have P6 : Hid (x6.heap[g0]? = some (.cells cur0 5 (0, 0))) := by
      refine hid ((GR6.out.block g0 (by omega) ?_).trans P5'.out)
      intro h
      have := (LT5.out g0 h.symm).1
      omega
    have hQ : Hid (Q1.take k1 ++ Q2.drop 1 = Q0) := by
      refine hid ?_
      have h := HQ.out
      rw [← Hk1.out, Nat.add_sub_cancel] at h
      exact h.symm
    have hlen : Hid (k1 + k2 = Q0.length) := hid (by rw [← Hn.out]; exact Hn0.out)
    have ec0 : cur0.toList.take (k1 + k2) = Lib.byteCells Q0 := by rw [hlen.out]; exact P5.out
    have ec6 : cur6.toList.take (k1 + k2) = Lib.byteCells Q0 := by rw [← hQ.out, Lib.byteCells_append, ← e6, Nat.mul_one]
    have C1 : Hid (∀ j, j < k1 + k2 → x6.cell? ⟨g0, 0 + j, none⟩ = some (.int .u8 ((Q0.getD (0 + j) 0).toNat : Int))) := hid (fun j hj => cells_at P6.out ec0 hlen.out 0 j (by omega))
    have C2 : Hid (∀ j, j < k1 + k2 → x6.cell? ⟨g6, 0 + j, none⟩ = some (.int .u8 ((Q0.getD (0 + j) 0).toNat : Int))) := hid (fun j hj => cells_at e2 ec6 hlen.out 0 j (by omega))
    have bb : Hid (Below w'.heap.size w' x6) := by
      refine hid ?_
      have y1 := b1.size
      have y2 := b2.size
      have y3 := b3.size
      have t3 : Below w'.heap.size w' x3 := (b1.trans (b2.mono y1)).trans (b3.mono (by omega))
      have t4 : Below w'.heap.size w' x4 := Below.grown t3 GR4.out (by omega) (fun k hk => by cases hk)
      have t5 : Below w'.heap.size w' x5 := Below.grown t4 GR5.out (by omega) (fun k hk => by simp [Value.ownBlock] at hk; omega)
      exact Below.grown t5 GR6.out (by omega) (fun k hk => by have := (LT5.out k hk).1; omega)
    rw [hv6]
    clear hv6 e1 e2 e3 e4 e5 e6 ec0 ec6
    go_wp2_with fail
    have H := eq_any g0 0 cap0 g6 0 cap6 (k1 + k2) (fun j => ((Q0.getD (0 + j) 0).toNat : Int)) x6 (by omega) C1.out C2.out
    refine H.mono ?_
    clear H
    rintro e x7 ⟨rfl, m7, rfl⟩
    go_wp2
    go_ret
    exact ⟨rfl, below_drewN bb.out m7⟩
  · go_wp2
    go_ret
    exact ⟨rfl, Below.refl _ _⟩
end Go.Proofs.Qxb6604127a
