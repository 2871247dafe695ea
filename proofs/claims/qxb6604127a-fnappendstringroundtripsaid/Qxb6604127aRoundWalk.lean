/-
  THE WALK OF FnAppendStringRoundTrip.
-/
import Derived.Test.Qxb6604127aReadWalk
namespace Go.Proofs.Qxb6604127a
open Go.RowKit

/-- WHAT THE WALK IS TOLD OF A SLICE OF INTEGERS THAT CAME IN: it is nil; or it leads to a row of 'cap' cells, the numbers 'zs' (the first 'len' are its elements, the rest its spare room), each fitting its kind. -/
def IsRow (k : IntKind) (w : World) (a : Option Addr) (len cap : Nat) (zs : List Int) : Prop :=
  (a = none ∧ len = 0 ∧ cap = 0 ∧ zs = []) ∨
  ∃ x, a = some x ∧ len ≤ cap ∧ cap ≤ maxLen ∧ zs.length = cap ∧ (∀ i, i < zs.length → w.cell? (x.add i) = some (.int k (zs.getD i 0))) ∧ ∀ n ∈ zs, (Lit.int k n).wf = true

def xsOf (zs : List Int) (n : Nat) : List Value := (List.range n).map fun j => .int .u8 (zs.getD j 0)

theorem xsOf_len (zs : List Int) (n : Nat) : (xsOf zs n).length = n := by simp [xsOf]

theorem xsOf_get (zs : List Int) (n j : Nat) (u : Value) (h : (xsOf zs n)[j]? = some u) : j < n ∧ u = .int .u8 (zs.getD j 0) := by
  have hj : j < n := by
    have := (List.getElem?_eq_some_iff.1 h).1
    rwa [xsOf_len] at this
  refine ⟨hj, ?_⟩
  simp only [xsOf, List.getElem?_map, List.getElem?_range hj, Option.map_some, Option.some.injEq] at h
  exact h.symm

theorem xsOf_at (zs : List Int) (n j : Nat) (h : j < n) : (xsOf zs n)[j]? = some (.int .u8 (zs.getD j 0)) := by
  simp [xsOf, List.getElem?_range h]

/-- The form of an address that leads to a cell. -/
theorem addr_form {w : World} {x : Addr} {u : Value} (h : w.cell? (x.add 0) = some u) : ∃ b o, x = ⟨b, o, none⟩ ∧ b < w.heap.size := by
  obtain ⟨b, o, sp⟩ := x
  cases sp with
  | none =>
    refine ⟨b, o, rfl, ?_⟩
    have := World.block_lt_of_cell? w _ h
    have e : ((⟨b, o, none⟩ : Addr).add 0).block = b := by unfold Addr.add; split <;> simp_all
    rwa [e] at this
  | some q =>
    exfalso
    unfold World.cell? at h
    split at h
    · have e : ((⟨b, o, some q⟩ : Addr).add 0).spot.isSome = true := by unfold Addr.add; split <;> simp_all
      simp [e] at h
    · cases h

theorem add_none (b o i : Nat) : (⟨b, o, none⟩ : Addr).add i = ⟨b, o + i, none⟩ := by unfold Addr.add; split <;> simp_all

theorem clone_uni (a0 : Option Addr) (len0 cap0 : Nat) (z0 : List Int) (w : World) (h : IsRow .u8 w a0 len0 cap0 z0) (hl : len0 ≤ 65536) :
    Calls Try.prog 8 #[.slice a0 len0 cap0] w fun e w' => ∃ ao, e = .returned (.slice ao len0 len0) ∧ Full w' ao (xsOf z0 len0) ∧ Below w.heap.size w w' ∧ (∀ b, ao = some b → b = ⟨w.heap.size, 0, none⟩) := by
  rcases h with ⟨rfl, rfl, rfl, rfl⟩ | ⟨x, rfl, h1, h2, h3, h4, _⟩
  · refine (clone_nil w).mono ?_
    rintro e w' ⟨rfl, rfl⟩
    exact ⟨none, rfl, ⟨fun _ => rfl, fun b hb => (by cases hb), fun b hb => (by cases hb)⟩, Below.refl _ _, fun b hb => (by cases hb)⟩
  · have fin : ∀ (e : Ending) (w' : World), (e = .returned (.slice (some ⟨w.heap.size, 0, none⟩) len0 len0) ∧ CS w w' (fun j => z0.getD j 0) len0 len0) → ∃ ao, e = .returned (.slice ao len0 len0) ∧ Full w' ao (xsOf z0 len0) ∧ Below w.heap.size w w' ∧ (∀ b, ao = some b → b = ⟨w.heap.size, 0, none⟩) := by
      rintro e w' ⟨rfl, hc⟩
      refine ⟨some ⟨w.heap.size, 0, none⟩, rfl, ⟨fun hb => (by cases hb), ?_, ?_⟩, hc.bel, fun b hb => (by injection hb with hb; exact hb.symm)⟩
      · intro b hb j u hu
        injection hb with hb
        subst hb
        obtain ⟨hj, rfl⟩ := xsOf_get _ _ _ _ hu
        rw [add_none, Nat.zero_add]
        exact hc.done j hj
      · intro b hb j
        injection hb with hb
        subst hb
        rw [add_none]
        exact hc.lt
    by_cases h0 : 0 < len0
    · obtain ⟨b, o, rfl, hb⟩ := addr_form (h4 0 (by omega))
      refine (clone_any _ b o len0 cap0 (fun j => z0.getD j 0) w (by omega) (fun _ => rfl) ?_ (fun _ => hb)).mono fin
      intro j hj
      have := h4 j (by omega)
      rwa [add_none] at this
    · exact (clone_any x 0 0 len0 cap0 (fun j => z0.getD j 0) w (by omega) (fun h => absurd h h0) (fun j hj => by omega) (fun h => absurd h h0)).mono fin

theorem eq_uni (g cap n N : Nat) (ao : Option Addr) (f : Nat → Int) (w : World) (hn : n ≤ 65536) (h1 : ∀ j, j < n → w.cell? ⟨g, 0 + j, none⟩ = some (.int .u8 (f j))) (h2 : ∀ b, ao = some b → b = ⟨N, 0, none⟩) (h3 : ao = none → n = 0) (h4 : ∀ b, ao = some b → ∀ j, j < n → w.cell? (b.add j) = some (.int .u8 (f j))) :
    Calls Try.prog 10 #[.slice (some ⟨g, 0, none⟩) n cap, .slice ao n n] w fun e w' => e = .returned (.bool true) ∧ ∃ m, w' = w.drewN m := by
  cases ao with
  | none =>
    have h0 := h3 rfl
    subst h0
    exact eq_zero _ _ _ _ w
  | some b =>
    have hb := h2 b rfl
    subst hb
    exact eq_any g 0 cap N 0 n n f w (by omega) h1 (fun j hj => by have := h4 _ rfl j hj; rwa [add_none] at this)

set_option maxHeartbeats 1000000 in
theorem bytes7 (a0 : Option Addr) (len0 cap0 : Nat) (s : ByteArray) (w : World) (h0 : len0 ≤ maxLen) (hs : s.size ≤ maxLen) :
    Calls Try.prog 7 #[.slice a0 len0 cap0, .string s] w fun e w' => (e = .returned (.bool true) ∨ e = .returned (.bool false)) ∧ w' = w := by
  unfold maxLen at h0 hs
  go_enter Try.func7, Try.ntmps7
  go_wp2
  all_goals
    go_ret
    first | exact ⟨Or.inl rfl, rfl⟩ | exact ⟨Or.inr rfl, rfl⟩

set_option maxHeartbeats 1000000 in
theorem eqs_nil (s : ByteArray) (w : World) (hs : s.size = 0) :
    Calls Try.prog 12 #[.slice none 0 0, .string s] w fun e w' => e = .returned (.bool true) ∧ ∃ m, w' = w.drewN m := by
  go_enter Try.func12, Try.ntmps12
  go_wp2
  go_loop [5] (fun k => k = .int .i64 0) (fun _ => 0)
  case atStart => rfl
  case round =>
    subst hrel
    go_wp2
    go_ret
    exact ⟨rfl, 0, rfl⟩

/-- The decoded row held against the text. -/
theorem eqs_uni (w x : World) (v : Value) (s : ByteArray) (h : AS w x v [] s.data.toList) (hs : s.size ≤ 65536) :
    Calls Try.prog 12 #[v, .string s] x fun e w' => e = .returned (.bool true) ∧ ∃ m, w' = x.drewN m := by
  rcases h.own.2 with ⟨rfl, h2⟩ | ⟨g, cap, cur, rfl, h4, h5, h6, h7, h8, h9⟩
  · exact eqs_nil s x (by rw [Lib.size_eq]; simpa using h2)
  · have e : ([] : List Value).length + s.data.toList.length = s.size := by rw [Lib.size_eq]; simp
    rw [e] at h9 ⊢
    refine eqs_any g 0 cap s x (by omega) (fun j hj => ?_)
    rw [Nat.zero_add, Lib.cell_of_heap h5]
    have h2 : (cur.toList.take (s.size * 1))[j]? = (Lib.byteCells s.data.toList)[j]? := by rw [h9]; rfl
    rw [List.getElem?_take_of_lt (by omega)] at h2
    have h3 : s.data.toList[j]? = some s[j] := List.getElem?_eq_getElem (by simpa using hj)
    simp only [Lib.byteCells, List.getElem?_map, h3, Option.map_some] at h2
    simpa using h2

set_option maxHeartbeats 4000000 in
set_option maxRecDepth 100000 in
theorem round_walk (a0 : Option Addr) (len0 cap0 : Nat) (z0 : List Int) (a1 : ByteArray) (w : World) (w0 : IsRow .u8 w a0 len0 cap0 z0) (w1 : a1.size ≤ maxLen) :
    Calls Try.prog 3 #[.slice a0 len0 cap0, .string a1] w fun e w' => e = .returned (.bool true) ∧ Below w.heap.size w w' := by
  have hlm : len0 ≤ maxLen := by
    rcases w0 with ⟨_, h, _⟩ | ⟨x, _, h1, h2, _⟩
    · rw [h]; exact Nat.zero_le _
    · omega
  have HB := hid (bytes7 a0 len0 cap0 a1 w hlm w1)
  have W0 := hid w0
  clear w0
  unfold maxLen at hlm w1
  by_cases h0 : 65536 < len0
  · go_enter Try.func3, Try.ntmps3
    go_wp2_with fail
    refine HB.out.mono ?_
    rintro e w' ⟨rfl | rfl, rfl⟩
    all_goals
      go_wp2
      go_ret
      exact ⟨rfl, Below.refl _ _⟩
  by_cases h1 : 65536 < a1.size
  · go_enter Try.func3, Try.ntmps3
    go_wp2_with fail
    refine HB.out.mono ?_
    rintro e w' ⟨rfl | rfl, rfl⟩
    all_goals
      go_wp2
      go_ret
      exact ⟨rfl, Below.refl _ _⟩
  have HCL := hid (clone_uni a0 len0 cap0 z0 w W0.out (by omega))
  go_enter Try.func3, Try.ntmps3
  go_wp2_with fail
  refine HB.out.mono ?_
  rintro e w' ⟨rfl | rfl, rfl⟩
  · clear HB W0
    go_wp2_with fail
    refine HCL.out.mono ?_
    clear HCL
    rintro e x1 ⟨ao, rfl, hF, b1, hao⟩
    have HF := hid hF
    have HAO := hid hao
    clear hF hao
    go_wp2_with fail
    have H := zzapp_any ao (xsOf z0 len0) len0 a1 x1 (xsOf_len _ _) HF.out (by rw [xsOf_len]; omega)
    refine H.mono ?_
    clear H
    rintro e x2 ⟨v, rfl, hA⟩
    have lq := Pl.quote_len a1.data.toList
    rw [← Lib.size_eq] at lq
    obtain ⟨g, cap, cur, hv, e1, e2, e3, e4, e5, e6⟩ : ∃ g cap cur, v = .slice (some ⟨g, 0, none⟩) (len0 + (Pl.quote a1.data.toList).length) cap ∧ x1.heap.size ≤ g ∧ x2.heap[g]? = some (.cells cur 5 (0, 0)) ∧ len0 + (Pl.quote a1.data.toList).length ≤ cap ∧ cap ≤ maxLen ∧ cur.size = cap * 1 ∧ cur.toList.take ((len0 + (Pl.quote a1.data.toList).length) * 1) = xsOf z0 len0 ++ Lib.byteCells (Pl.quote a1.data.toList) := by
      have ho := hA.own.2
      rw [xsOf_len] at ho
      rcases ho with ⟨_, h⟩ | ⟨g, cap, cur, h⟩
      · omega
      · exact ⟨g, cap, cur, h⟩
    obtain ⟨q, hq⟩ : ∃ q, q = Pl.quote a1.data.toList := ⟨_, rfl⟩
    rw [← hq] at hv e3 e6 lq
    obtain ⟨L, hL⟩ : ∃ L, L = q.length := ⟨_, rfl⟩
    rw [← hL] at hv e3 e6 lq
    rw [hv]
    have hb2 := hA.bel
    have hgl : g < x2.heap.size := (Array.getElem?_eq_some_iff.1 e2).1
    have C1 : Hid (∀ j, j < len0 → x2.cell? ⟨g, 0 + j, none⟩ = some (.int .u8 (z0.getD j 0))) := by
      refine hid fun j hj => ?_
      rw [Nat.zero_add, Lib.cell_of_heap e2]
      have h2 : (cur.toList.take ((len0 + L) * 1))[j]? = (xsOf z0 len0 ++ Lib.byteCells q)[j]? := by rw [e6]
      rw [List.getElem?_take_of_lt (by omega), List.getElem?_append_left (by rw [xsOf_len]; exact hj), xsOf_at _ _ _ hj] at h2
      simpa using h2
    have C2 : Hid (∀ j, j < L → x2.cell? ⟨g, len0 + j, none⟩ = some (.int .u8 ((q.getD j 0).toNat : Int))) := by
      refine hid fun j hj => ?_
      rw [Lib.cell_of_heap e2]
      have h2 : (cur.toList.take ((len0 + L) * 1))[len0 + j]? = (xsOf z0 len0 ++ Lib.byteCells q)[len0 + j]? := by rw [e6]
      have h3 : q[j]? = some (q.getD j 0) := by
        rw [List.getD_eq_getElem?_getD, List.getElem?_eq_getElem (by omega)]; rfl
      rw [List.getElem?_take_of_lt (by omega), List.getElem?_append_right (by rw [xsOf_len]; omega), xsOf_len, Nat.add_sub_cancel_left] at h2
      simp only [Lib.byteCells, List.getElem?_map, h3, Option.map_some] at h2
      simpa using h2
    have HEQ : Hid (∀ m, Calls Try.prog 10 #[.slice (some ⟨g, 0, none⟩) len0 cap, .slice ao len0 len0] (x2.drewN m) fun e w'' => e = .returned (.bool true) ∧ ∃ k, w'' = (x2.drewN m).drewN k) := by
      refine hid fun m => eq_uni g cap len0 w'.heap.size ao (fun j => z0.getD j 0) (x2.drewN m) (by omega) (fun j hj => C1.out j hj) HAO.out (fun h => ?_) (fun b hb j hj => ?_)
      · have := congrArg List.length (HF.out.none_ h)
        rw [xsOf_len] at this
        simpa using this
      · have h1 := HF.out.cells b hb j _ (xsOf_at z0 len0 j hj)
        have h2 := hb2.cell (p := b.add j) (HF.out.old b hb j)
        exact h2.trans h1
    have HRD : Hid (∀ m, Calls Try.prog 11 #[.slice (some ⟨g, len0, none⟩) L (cap - len0)] (x2.drewN m) fun e w'' => ∃ v, e = .returned (.tuple #[v, .bool true]) ∧ AS (x2.drewN m) w'' v [] a1.data.toList) :=
      hid fun m => read_any g len0 L (cap - len0) q a1.data.toList (x2.drewN m) hq hL (by omega) hgl (fun j hj => C2.out j hj)
    have BB : Hid (Below w'.heap.size w' x2) := hid (b1.trans (hb2.mono b1.size))
    clear hq hL hv hA e1 e2 e4 e5 e6 C1 C2 hgl hb2 b1 HF HAO
    have n1 : (len0 : Int) ≤ (len0 : Int) + (L : Int) := by omega
    have n2 : (0 : Int) ≤ (len0 : Int) := by omega
    have n3 : (len0 : Int) ≤ (cap : Int) := by omega
    go_wp2
    go_quiet ((go_at_call 10; exact Calls.quiet_of (HEQ.out _)))
    go_wp2_with fail
    have H := HRD.out nq
    refine H.mono ?_
    clear H
    rintro e x3 ⟨v3, rfl, hA3⟩
    have H4 := hid (eqs_uni _ x3 v3 a1 hA3 (by omega))
    have B4 : Hid (Below w'.heap.size w' x3) := hid ((below_drewN BB.out nq).trans (hA3.bel.mono BB.out.size))
    clear hA3
    go_wp2_with fail
    refine H4.out.mono ?_
    rintro e x4 ⟨rfl, m4, rfl⟩
    go_wp2
    go_ret
    exact ⟨rfl, below_drewN B4.out m4⟩
  · go_wp2
    go_ret
    exact ⟨rfl, Below.refl _ _⟩
end Go.Proofs.Qxb6604127a
