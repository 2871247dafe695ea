/-
  THE WALK OF (*Credentials).Header.
-/
import Derived.Test.Qxb6603960aFieldsWalk
namespace Go.Proofs.Qxb6603960a
open Go.RowKit

/-- The credentials in block cb hold the values V, in the header's order. -/
def Creds (w : World) (cb : Nat) (V : Nat → ByteArray) : Prop := ∀ k, k < 9 → w.cell? ⟨cb, cidx k, none⟩ = some (.string (V k))

def bytesOf (V : Nat → ByteArray) (k : Nat) : List UInt8 := (V k).data.toList

theorem Creds.below {w w' : World} {cb : Nat} {V : Nat → ByteArray} (h : Creds w cb V) (hcb : cb < w.heap.size) (hb : Below w.heap.size w w') : Creds w' cb V :=
  fun k hk => (hb.cell (p := ⟨cb, cidx k, none⟩) hcb).trans (h k hk)

theorem IsBuilderF_drew {T e : TypeId} {B b : Nat} {bs : List Value} {w : World} (h : Lib.IsBuilderF T e B b bs w) : Lib.IsBuilderF T e B b bs w.drew := h

theorem kept53 {w w' : World} {b i : Nat} {cs : Array Value} (k : Lib.OthersKept 5 (some b) w w') (h : w.heap[i]? = some (.cells cs 53 (0, 0))) (hne : i ≠ b) : w'.heap[i]? = some (.cells cs 53 (0, 0)) :=
  k i _ h (by simpa using hne) (by intro c fz e; injection e with _ e2 _; exact absurd e2 (by decide))

/-- String(), the text under a name of its own. -/
theorem string_is (B b : Nat) (O : ByteArray) (l : List UInt8) (w : World) (hO : O.data.toList = l) (h : Lib.IsBuilderF 26 5 B b (Lib.byteCells l) w) (hBw : B ≤ w.heap.size) :
    Calls Try.prog 10 #[.pointer (some ⟨b, 0, none⟩)] w fun e w' => e = .returned (.string O) ∧ Below B w w' := by
  refine (Try.Builder_String_any_k B b l w h hBw).mono ?_
  rintro e w' ⟨rfl, _, hb, _⟩
  refine ⟨?_, hb⟩
  subst hO
  rw [Lib.mk_data]

/-- What the writers leave: the builder, the fields' row, a round's own field. -/
structure St (w wr x : World) (F : Nat) (fc nf : Array Value) (acc : List UInt8) : Prop where
  isB : Lib.IsBuilderF 26 5 w.heap.size w.heap.size (Lib.byteCells acc) x
  row : x.heap[F]? = some (.cells fc 53 (0, 0))
  own : x.heap[wr.heap.size]? = some (.cells nf 53 (0, 0))
  bel : Below w.heap.size w x
  lt : w.heap.size < F ∧ F < wr.heap.size

theorem St.step {w wr x y : World} {F : Nat} {fc nf : Array Value} {acc acc' : List UInt8} (h : St w wr x F fc nf acc) (hB : Lib.IsBuilderF 26 5 w.heap.size w.heap.size (Lib.byteCells acc') y) (b : Below w.heap.size x y) (k : Lib.OthersKept 5 (some w.heap.size) x y) : St w wr y F fc nf acc' :=
  ⟨hB, kept53 k h.row (by have := h.lt; omega), kept53 k h.own (by have := h.lt; omega), h.bel.trans b, h.lt⟩

theorem St.size {w wr x : World} {F : Nat} {fc nf : Array Value} {acc : List UInt8} (h : St w wr x F fc nf acc) : w.heap.size ≤ x.heap.size := h.bel.size

theorem St.first {w wr : World} {F : Nat} {fc : Array Value} (nf : Array Value) {acc : List UInt8} (hI : Lib.IsBuilderF 26 5 w.heap.size w.heap.size (Lib.byteCells acc) wr) (hrow : wr.heap[F]? = some (.cells fc 53 (0, 0))) (hb : Below w.heap.size w wr) (hF : w.heap.size < F) :
    St w wr (wr.alloc (.cells nf 53)) F fc nf acc := by
  have hlt : F < wr.heap.size := (Array.getElem?_eq_some_iff.1 hrow).1
  exact ⟨hI.alloc _, by rw [Below.heap_alloc _ _ _ hlt]; exact hrow, heap_alloc_new wr _, hb.alloc (by omega) _, hF, hlt⟩

theorem nm61 (nm : ByteArray) : (nm ++ (⟨#[61]⟩ : ByteArray)).size = nm.size + 1 := by rw [ByteArray.size_append]; rfl

/-- WriteString, over the state. -/
theorem ws_st {w wr x : World} {F : Nat} {fc nf : Array Value} {acc : List UInt8} (h : St w wr x F fc nf acc) (s : ByteArray) (n : Int) (l : List UInt8) (hn : (s.size : Int) = n) (hl : s.data.toList = l) (hb : acc.length + s.size ≤ 140737488355328) :
    Calls Try.prog 8 #[.pointer (some ⟨w.heap.size, 0, none⟩), .string s] x fun e y => e = .returned (.tuple #[.int .i64 n, .nilIface]) ∧ St w wr y F fc nf (acc ++ l) := by
  subst hn hl
  refine (Try.Builder_WriteString_k w.heap.size w.heap.size _ s x h.isB (by rw [Lib.byteCells_length]; exact hb) h.size).mono ?_
  rintro e y ⟨rfl, h1, b1, k1⟩
  exact ⟨rfl, h.step (Or.inr (by rw [Lib.byteCells_append]; exact h1)) b1 k1⟩

theorem wq_st {w wr x : World} {F : Nat} {fc nf : Array Value} {acc : List UInt8} (h : St w wr x F fc nf acc) (s : ByteArray) (hl : acc.length + 2 * s.size ≤ 70368744177664) :
    Calls Try.prog 23 #[.pointer (some ⟨w.heap.size, 0, none⟩), .string s] x fun e y => e = .returned (.tuple #[]) ∧ St w wr y F fc nf (acc ++ Pl.quote s.data.toList) := by
  refine (wq_any w.heap.size w.heap.size acc s x h.isB hl h.size).mono ?_
  rintro e y ⟨rfl, h1, b1, k1⟩
  exact ⟨rfl, h.step h1 b1 k1⟩

theorem len_st {w wr x : World} {F : Nat} {fc nf : Array Value} {acc : List UInt8} (h : St w wr x F fc nf acc) :
    Calls Try.prog 25 #[.pointer (some ⟨w.heap.size, 0, none⟩)] x fun e y => e = .returned (.int .i64 acc.length) ∧ y = x := by
  refine (Try.Builder_Len_f w.heap.size w.heap.size _ x h.isB).mono ?_
  rintro e y ⟨rfl, rfl⟩
  exact ⟨by rw [Lib.byteCells_length], rfl⟩

theorem piece_eq {k : Nat} {acc : List UInt8} {v nm : ByteArray} {x : World} {B : Nat} {l : List UInt8} (hB : Lib.IsBuilderF 26 5 B B (Lib.byteCells l) x) (hl : l = acc ++ Pl.pre k ++ nm.data.toList ++ 61 :: Pl.val k v.data.toList) (hn : nm.data.toList = Pl.name k) (hv : ¬ (v.data.toList = [] ∧ 5 ≤ k)) :
    Lib.IsBuilderF 26 5 B B (Lib.byteCells (acc ++ Pl.piece k v.data.toList)) x := by
  have : acc ++ Pl.piece k v.data.toList = l := by
    rw [hl, hn]; simp only [Pl.piece]; rw [if_neg hv]; simp
  rw [this]; exact hB

theorem piece_eq_sq {k : Nat} {acc : List UInt8} {v nm : ByteArray} {x : World} {B : Nat} (hB : Lib.IsBuilderF 26 5 B B (Lib.byteCells (acc ++ [44, 32] ++ (nm.data.toList ++ [61]) ++ Pl.quote v.data.toList)) x) (hn : nm.data.toList = Pl.name k) (hv : ¬ (v.data.toList = [] ∧ 5 ≤ k)) (h0 : 0 < k ∧ k < 6) :
    Lib.IsBuilderF 26 5 B B (Lib.byteCells (acc ++ Pl.piece k v.data.toList)) x :=
  piece_eq hB (by have e : Pl.pre k = [44, 32] := by simp [Pl.pre]; omega
                  simp [e, Pl.val, h0.2]) hn hv

theorem piece_eq_nq {k : Nat} {acc : List UInt8} {v nm : ByteArray} {x : World} {B : Nat} (hB : Lib.IsBuilderF 26 5 B B (Lib.byteCells (acc ++ (nm.data.toList ++ [61]) ++ Pl.quote v.data.toList)) x) (hn : nm.data.toList = Pl.name k) (hv : ¬ (v.data.toList = [] ∧ 5 ≤ k)) (h0 : k = 0) :
    Lib.IsBuilderF 26 5 B B (Lib.byteCells (acc ++ Pl.piece k v.data.toList)) x :=
  piece_eq hB (by simp [Pl.pre, h0, Pl.val]) hn hv

theorem piece_eq_sr {k : Nat} {acc : List UInt8} {v nm : ByteArray} {x : World} {B : Nat} (hB : Lib.IsBuilderF 26 5 B B (Lib.byteCells (acc ++ [44, 32] ++ (nm.data.toList ++ [61]) ++ v.data.toList)) x) (hn : nm.data.toList = Pl.name k) (hv : ¬ (v.data.toList = [] ∧ 5 ≤ k)) (h0 : ¬ k < 6) :
    Lib.IsBuilderF 26 5 B B (Lib.byteCells (acc ++ Pl.piece k v.data.toList)) x :=
  piece_eq hB (by have e : Pl.pre k = [44, 32] := by simp [Pl.pre]; omega
                  simp [e, Pl.val, h0]) hn hv

set_option maxHeartbeats 4000000 in
set_option maxRecDepth 100000 in
theorem header_any (cb : Nat) (V : Nat → ByteArray) (O : ByteArray) (w : World) (hcb : cb < w.heap.size) (hC : Creds w cb V) (hV : ∀ k, (V k).size ≤ 65536) (hO : O.data.toList = Pl.header (bytesOf V)) :
    Calls Try.prog 15 #[.pointer (some ⟨cb, 0, none⟩)] w fun e w' => e = .returned (.string O) ∧ Below w.heap.size w w' := by
  have HO := hid hO
  clear hO
  have HC := hid hC
  clear hC
  have HV := hid hV
  clear hV
  go_enter Try.func15, Try.ntmps15
  go_wp2_with (go_at_call 8; refine (Try.Builder_WriteString_k w.heap.size w.heap.size [] ⟨#[68, 105, 103, 101, 115, 116, 32]⟩ _ (Lib.IsBuilderF.of (Lib.fresh_isBuilder 26 5 w)) (by decide) (by simp)).mono ?_)
  rintro e x1 ⟨rfl, h1, b1, k1⟩
  have z1 : w.heap.size < x1.heap.size := Nat.lt_of_lt_of_le (by simp) b1.size
  have b1' : Below w.heap.size w x1 := ((Below.refl _ w).alloc (Nat.le_refl _) _).trans b1
  clear b1 k1
  go_wp2_with (go_at_call 24; refine (fields_any cb _).mono ?_)
  rintro e x2 ⟨rfl, rfl⟩
  have hst1 : Lib.IsBuilderF 26 5 w.heap.size w.heap.size (Lib.byteCells (Pl.digest ++ Pl.body (bytesOf V) 0)) (x1.alloc (.cells (fcells cb) 53)) := Lib.IsBuilderF.alloc (Or.inr h1) _
  have hst2 := heap_alloc_new x1 (.cells (fcells cb) 53)
  have hst3 := b1'.alloc (Nat.le_of_lt z1) (.cells (fcells cb) 53)
  obtain ⟨F, hF⟩ : ∃ F, F = x1.heap.size := ⟨_, rfl⟩
  have HF := hid hF
  rw [← hF] at hst2 z1
  go_wp2
  rw [← hF]
  clear hF h1
  go_loopw [10] (fun i wr => ∃ k : Nat, k ≤ 9 ∧ i = .int .i64 k ∧ Lib.IsBuilderF 26 5 w.heap.size w.heap.size (Lib.byteCells (Pl.digest ++ Pl.body (bytesOf V) k)) wr ∧ wr.heap[F]? = some (.cells (fcells cb) 53 (0, 0)) ∧ Below w.heap.size w wr) (fun i _ => 9 - (intOf i).toNat)
  case atStart => exact ⟨0, by omega, rfl, hst1, hst2, hst3.drew⟩
  case round =>
    obtain ⟨k, hk, rfl, hI, hrow, hb⟩ := hrel
    clear hst1 hst2 hst3
    by_cases hlt : k < 9
    · obtain ⟨f0, f1, f2, f3⟩ := fcells_at cb k hlt
      have c0 := (Lib.cell_of_heap hrow (k * 4)).trans f0
      have c1 := (Lib.cell_of_heap hrow (k * 4 + 1)).trans f1
      have c2 := (Lib.cell_of_heap hrow (k * 4 + 2)).trans f2
      have c3 := (Lib.cell_of_heap hrow (k * 4 + 3)).trans f3
      have cv : ∀ o, (wr.alloc o).cell? ⟨cb, cidx k, none⟩ = some (.string (V k)) := fun o => ((hb.alloc (hb.size) o).cell (p := ⟨cb, cidx k, none⟩) hcb).trans (HC.out k hlt)
      clear f0 f1 f2 f3
      have cw : Hid (w.cell? ⟨cb, cidx k, none⟩ = some (.string (V k))) := hid (HC.out k hlt)
      have hlt' : (k : Int) < 9 := by omega
      have hvs := HV.out k
      have hbs : Hid (Pl.body (bytesOf V) (k + 1) = Pl.body (bytesOf V) k ++ Pl.piece k (V k).data.toList) := hid rfl
      have hnl := Pl.name_len k
      have hns : (nameB k).size ≤ 9 := by rw [Lib.size_eq]; exact hnl
      have hnd : Hid ((nameB k).data.toList = Pl.name k) := hid rfl
      have hbl : (Pl.digest ++ Pl.body (bytesOf V) k).length ≤ 1179774 := by
        have := Pl.body_len (bytesOf V) 65536 (fun j => by have := HV.out j; rw [Lib.size_eq] at this; exact this) k
        have : k * (2 * 65536 + 14) ≤ 9 * (2 * 65536 + 14) := Nat.mul_le_mul_right _ hk
        simp only [List.length_append, Pl.digest, List.length_cons, List.length_nil]; omega
      have hb7 : Hid ((7 : Int) < ((Pl.digest ++ Pl.body (bytesOf V) k).length : Int) ↔ 0 < k) := by
        refine hid ⟨fun h => ?_, fun h => ?_⟩
        · rcases Nat.eq_zero_or_pos k with h0 | h0
          · rw [h0] at h; simp [Pl.digest, Pl.body] at h
          · exact h0
        · have := Pl.body_pos (bytesOf V) k h
          simp only [List.length_append, Pl.digest, List.length_cons, List.length_nil]; omega
      generalize V k = v at cv cw hbs hvs
      generalize nameB k = nm at c0 hns hnd
      generalize hacc : Pl.digest ++ Pl.body (bytesOf V) k = acc at hI hbl hb7
      have Hacc := hid hacc
      clear hacc
      have hS := St.first #[.string nm, .pointer (some ⟨cb, cidx k, none⟩), .bool (decide (k < 6)), .bool (decide (k < 5))] hI hrow hb z1
      clear hI hrow
      generalize hr : decide (k < 5) = r at c3 hS
      generalize hq : decide (k < 6) = q at c2 hS
      cases r with
      | true =>
        have hk5 : k < 5 := of_decide_eq_true hr
        have hq2 : q = true := by rw [← hq]; exact decide_eq_true (by omega)
        subst hq2
        clear hr hq
        by_cases hk0 : 0 < k
        · have h7 : (7 : Int) < (acc.length : Int) := hb7.out.2 hk0
          by_cases hv : v.toList = []
          all_goals
            go_wp2_with (go_at_call 25; refine (len_st hS).mono ?_)
            rintro e y ⟨rfl, rfl⟩
            go_wp2_with (go_at_call 8; refine (ws_st hS ⟨#[44, 32]⟩ 2 [44, 32] rfl rfl (by simp [ByteArray.size]; omega)).mono ?_)
            rintro e x3 ⟨rfl, hS3⟩
            clear hS
            have n0 := Lib.cell_of_heap hS3.own 0
            simp only [List.getElem?_toArray, List.getElem?_cons_zero] at n0
            go_wp2_with (go_at_call 8; refine (ws_st hS3 (nm ++ ⟨#[61]⟩) (nm.size + 1) (nm.data.toList ++ [61]) (by rw [nm61]; rfl) (by simp [ByteArray.data_append]) (by rw [nm61]; first | omega | (simp; omega))).mono ?_)
            rintro e x4 ⟨rfl, hS4⟩
            clear n0 hS3
            have n1 := Lib.cell_of_heap hS4.own 1
            have n2 := Lib.cell_of_heap hS4.own 2
            simp only [List.getElem?_toArray, List.getElem?_cons_zero, List.getElem?_cons_succ] at n1 n2
            have n3 := (hS4.bel.cell (p := ⟨cb, cidx k, none⟩) hcb).trans cw.out
            go_wp2_with (go_at_call 23; refine (wq_st hS4 v (by simp; omega)).mono ?_)
            rintro e x5 ⟨rfl, hS5⟩
            clear n1 n2 n3 hS4
            go_wp2
            go_roundw
            case rel =>
              refine ⟨k + 1, by omega, by go_num, ?_, hS5.row, hS5.bel⟩
              rw [hbs.out, ← List.append_assoc, Hacc.out]
              exact piece_eq_sq hS5.isB hnd.out (fun h => by first | omega | exact hv (by rw [Lib.toList_data]; exact h.1)) (by omega)
            case measure => simp [intOf]; omega
        · have h7 : ¬ (7 : Int) < (acc.length : Int) := fun h => hk0 (hb7.out.1 h)
          have HK0 := hid hk0
          clear hk0
          by_cases hv : v.toList = []
          all_goals
            go_wp2_with (go_at_call 25; fail)
            refine (len_st hS).mono ?_
            rintro e y ⟨rfl, rfl⟩
            have hS3 := hS
            clear hS
            have n0 := Lib.cell_of_heap hS3.own 0
            simp only [List.getElem?_toArray, List.getElem?_cons_zero] at n0
            go_wp2_with (go_at_call 8; refine (ws_st hS3 (nm ++ ⟨#[61]⟩) (nm.size + 1) (nm.data.toList ++ [61]) (by rw [nm61]; rfl) (by simp [ByteArray.data_append]) (by rw [nm61]; first | omega | (simp; omega))).mono ?_)
            rintro e x4 ⟨rfl, hS4⟩
            clear n0 hS3
            have n1 := Lib.cell_of_heap hS4.own 1
            have n2 := Lib.cell_of_heap hS4.own 2
            simp only [List.getElem?_toArray, List.getElem?_cons_zero, List.getElem?_cons_succ] at n1 n2
            have n3 := (hS4.bel.cell (p := ⟨cb, cidx k, none⟩) hcb).trans cw.out
            go_wp2_with (go_at_call 23; refine (wq_st hS4 v (by simp; omega)).mono ?_)
            rintro e x5 ⟨rfl, hS5⟩
            clear n1 n2 n3 hS4
            go_wp2
            go_roundw
            case rel =>
              refine ⟨k + 1, by omega, by go_num, ?_, hS5.row, hS5.bel⟩
              rw [hbs.out, ← List.append_assoc, Hacc.out]
              exact piece_eq_nq hS5.isB hnd.out (fun h => by first | omega | exact hv (by rw [Lib.toList_data]; exact h.1)) (by have := HK0.out; omega)
            case measure => simp [intOf]; omega
      | false =>
        have hk5 : ¬ k < 5 := of_decide_eq_false hr
        have h7 : (7 : Int) < (acc.length : Int) := hb7.out.2 (by omega)
        clear hr
        by_cases hv : v.toList = []
        · go_wp2
          go_roundw
          case rel =>
            refine ⟨k + 1, by omega, by go_num, ?_, hS.row, hS.bel⟩
            rw [hbs.out, ← List.append_assoc, Hacc.out]
            have hpe : Pl.piece k v.data.toList = [] := by
              rw [Lib.toList_data] at hv
              simp only [Pl.piece]; rw [if_pos ⟨hv, by omega⟩]
            rw [hpe, List.append_nil]
            exact hS.isB
          case measure => simp [intOf]; omega
        · cases q with
          | true =>
            have hk6 : k < 6 := of_decide_eq_true hq
            clear hq
            go_wp2_with (go_at_call 25; refine (len_st hS).mono ?_)
            rintro e y ⟨rfl, rfl⟩
            go_wp2_with (go_at_call 8; refine (ws_st hS ⟨#[44, 32]⟩ 2 [44, 32] rfl rfl (by simp [ByteArray.size]; omega)).mono ?_)
            rintro e x3 ⟨rfl, hS3⟩
            clear hS
            have n0 := Lib.cell_of_heap hS3.own 0
            simp only [List.getElem?_toArray, List.getElem?_cons_zero] at n0
            go_wp2_with (go_at_call 8; refine (ws_st hS3 (nm ++ ⟨#[61]⟩) (nm.size + 1) (nm.data.toList ++ [61]) (by rw [nm61]; rfl) (by simp [ByteArray.data_append]) (by rw [nm61]; first | omega | (simp; omega))).mono ?_)
            rintro e x4 ⟨rfl, hS4⟩
            clear n0 hS3
            have n1 := Lib.cell_of_heap hS4.own 1
            have n2 := Lib.cell_of_heap hS4.own 2
            simp only [List.getElem?_toArray, List.getElem?_cons_zero, List.getElem?_cons_succ] at n1 n2
            have n3 := (hS4.bel.cell (p := ⟨cb, cidx k, none⟩) hcb).trans cw.out
            go_wp2_with (go_at_call 23; refine (wq_st hS4 v (by simp; omega)).mono ?_)
            rintro e x5 ⟨rfl, hS5⟩
            clear n1 n2 n3 hS4
            go_wp2
            go_roundw
            case rel =>
              refine ⟨k + 1, by omega, by go_num, ?_, hS5.row, hS5.bel⟩
              rw [hbs.out, ← List.append_assoc, Hacc.out]
              exact piece_eq_sq hS5.isB hnd.out (fun h => by first | omega | exact hv (by rw [Lib.toList_data]; exact h.1)) (by omega)
            case measure => simp [intOf]; omega
          | false =>
            have hk6 : ¬ k < 6 := of_decide_eq_false hq
            clear hq
            go_wp2_with (go_at_call 25; refine (len_st hS).mono ?_)
            rintro e y ⟨rfl, rfl⟩
            go_wp2_with (go_at_call 8; refine (ws_st hS ⟨#[44, 32]⟩ 2 [44, 32] rfl rfl (by simp [ByteArray.size]; omega)).mono ?_)
            rintro e x3 ⟨rfl, hS3⟩
            clear hS
            have n0 := Lib.cell_of_heap hS3.own 0
            simp only [List.getElem?_toArray, List.getElem?_cons_zero] at n0
            go_wp2_with (go_at_call 8; refine (ws_st hS3 (nm ++ ⟨#[61]⟩) (nm.size + 1) (nm.data.toList ++ [61]) (by rw [nm61]; rfl) (by simp [ByteArray.data_append]) (by rw [nm61]; first | omega | (simp; omega))).mono ?_)
            rintro e x4 ⟨rfl, hS4⟩
            clear n0 hS3
            have n1 := Lib.cell_of_heap hS4.own 1
            have n2 := Lib.cell_of_heap hS4.own 2
            simp only [List.getElem?_toArray, List.getElem?_cons_zero, List.getElem?_cons_succ] at n1 n2
            have n3 := (hS4.bel.cell (p := ⟨cb, cidx k, none⟩) hcb).trans cw.out
            go_wp2_with (go_at_call 8; refine (ws_st hS4 v v.size v.data.toList rfl rfl (by simp; omega)).mono ?_)
            rintro e x5 ⟨rfl, hS5⟩
            clear n1 n2 n3 hS4
            go_wp2
            go_roundw
            case rel =>
              refine ⟨k + 1, by omega, by go_num, ?_, hS5.row, hS5.bel⟩
              rw [hbs.out, ← List.append_assoc, Hacc.out]
              exact piece_eq_sr hS5.isB hnd.out (fun h => by first | omega | exact hv (by rw [Lib.toList_data]; exact h.1)) (by omega)
            case measure => simp [intOf]; omega
    · have hk9 : k = 9 := by omega
      subst hk9
      clear hk hlt
      go_wp2_with (go_at_call 10; refine (string_is w.heap.size w.heap.size O _ _ HO.out hI hb.size).mono ?_)
      rintro e x9 ⟨rfl, b9⟩
      go_wp2
      go_ret
      exact ⟨rfl, hb.trans b9⟩
end Go.Proofs.Qxb6603960a
