/-
  THE WALK OF dgb1DecodeQuoted, at a text that bears a quoted-string at i.
-/
import Derived.Test.Qxb6603960aWalks1
import Derived.Lib.BufferRead
namespace Go.Proofs.Qxb6603960a
open Go.RowKit

theorem Try.info5 : (Try.prog.info? 5).map (fun i => (i.zero, i.size, i.bytes)) = some (some (.int .u8 0), 1, 1) := by kernel_rfl

theorem drop_head {h : ByteArray} {j : Nat} {c : UInt8} {rest : List UInt8} (e : h.data.toList.drop j = c :: rest) :
    j < h.size ∧ (∀ hj : j < h.size, h[j].toNat = c.toNat) ∧ h.data.toList.drop (j + 1) = rest := by
  have hj : j < h.size := by
    rcases Nat.lt_or_ge j h.size with hlt | hge
    · exact hlt
    · rw [List.drop_eq_nil_of_le (by simpa using hge)] at e; cases e
  have e2 := List.drop_eq_getElem_cons (l := h.data.toList) (i := j) (by simpa using hj)
  rw [e2] at e
  injection e with e3 e4
  exact ⟨hj, fun _ => by rw [← e3]; rfl, e4⟩

theorem drop_len {h : ByteArray} {j : Nat} {l : List UInt8} (e : h.data.toList.drop j = l) : l.length = h.size - j := by
  have := congrArg List.length e; simpa using this.symm

theorem byteCells_one (l : List UInt8) : ∀ v ∈ Lib.byteCells l, v.oneCell' = true := by
  intro v hv
  simp only [Lib.byteCells, List.mem_map] at hv
  obtain ⟨b, _, rfl⟩ := hv
  rfl

/-- What 'append(buf, c)' leaves of the relation. -/
theorem rel_app {w wr w1 : World} {v v' : Value} {done : List UInt8} {c : UInt8} {z : Int} {o : Obj} (hz : z = c.toNat)
    (hown : wr.ownsRow w.heap.size 5 1 v done.length (Lib.byteCells done)) (hb : Below w.heap.size w wr)
    (hown' : w1.ownsRow w.heap.size 5 1 v' (done.length + 1) (Lib.byteCells done ++ [.int .u8 z])) (hg : (wr.alloc o).grownBy w1 v.ownBlock) :
    w1.ownsRow w.heap.size 5 1 v' (done ++ [c]).length (Lib.byteCells (done ++ [c])) ∧ Below w.heap.size w w1 := by
  subst hz
  refine ⟨?_, ?_⟩
  · rw [byteCells_snoc, List.length_append]; exact hown'
  · refine Below.grown (hb.alloc (by have := hb.size; omega) _) hg (by have := hb.size; simp; omega) (fun k hk => ?_)
    exact (hown.lt _ hk).1

set_option maxHeartbeats 2000000 in
set_option maxRecDepth 100000 in
theorem dec_any (h : ByteArray) (i : Nat) (s post : List UInt8) (w : World) (hh : h.data.toList.drop i = Pl.quote s ++ post) (hsz : h.size ≤ 35184372088832) :
    Calls Try.prog 11 #[.string h, .int .i64 i] w fun e w' => e = .returned (.tuple #[.string ⟨s.toArray⟩, .int .i64 ((i + (Pl.quote s).length : Nat) : Int), .bool true]) ∧ Below w.heap.size w w' := by
  obtain ⟨i0, hi, hz0, hz1, hz2⟩ := info_parts Try.info5
  have hh2 : h.data.toList.drop i = 34 :: (Pl.esc s ++ 34 :: post) := by rw [hh]; simp [Pl.quote]
  obtain ⟨hilt, hib, hdr⟩ := drop_head hh2
  have hib := hib hilt
  have hlen := drop_len hh2
  simp only [List.length_cons, List.length_append] at hlen
  have Hdr := hid hdr
  clear hh hh2 hdr
  have hne : ((h[i].toNat : Int) != 34) = false := by rw [hib]; rfl
  clear hib
  have hd0 : decide ((i : Int) < 0) = false := by simp
  have hd1 : decide (h.size ≤ i) = false := by simp; omega
  go_enter Try.func11, Try.ntmps11
  go_wp2
  go_loopw [7, 8] (fun v j wr => ∃ (done todo : List UInt8) (jn : Nat), Hid (s = done ++ todo) ∧ j = .int .i64 jn ∧ wr.ownsRow w.heap.size 5 1 v done.length (Lib.byteCells done) ∧ Hid (h.data.toList.drop jn = Pl.esc todo ++ 34 :: post) ∧ Hid (jn + (Pl.esc todo).length + 1 = i + (Pl.quote s).length) ∧ Below w.heap.size w wr) (fun _ j _ => h.size - (intOf j).toNat)
  case atStart =>
    exact ⟨[], s, i + 1, by exact hid rfl, by go_num, World.ownsRow_nil _ _ _ _, Hdr, hid (by simp [Pl.quote]; omega), Below.refl _ _⟩
  case round =>
    obtain ⟨done, todo, jn, Hs, rfl, hown, Hd, Hl, hb⟩ := hrel
    cases todo with
    | nil =>
      obtain ⟨hj, hc0, _⟩ := drop_head (c := 34) (rest := post) Hd.out
      have hc : h[jn].toNat = 34 := hc0 hj
      clear hc0 Hd
      have hs : s = done := by have := Hs.out; simpa using this
      have hl : jn + 1 = i + (Pl.quote s).length := by have := Hl.out; simpa [Pl.esc] using this
      clear Hs Hl
      have Hs := hid hs
      have Hl := hid hl
      clear hs hl
      rcases hown.2 with ⟨rfl, h0⟩ | ⟨g, cap, cur, rfl, hbg, hg, hnc, hcm, hcs, htk⟩
      · have hcv : ∀ w, (convert 24 9 (.slice none 0 0)).run Try.prog w = .ok (.string ⟨#[]⟩) w := fun w => Lib.run_convert_nil_bytes w 24 9 5 0 Try.underlying24 Try.underlying5 Try.underlying9
        have hd : done = [] := List.eq_nil_of_length_eq_zero h0
        rw [hd] at Hs
        clear h0 hd hown
        go_wp2
        go_ret3
        exact ⟨by rw [Hs.out] at Hl ⊢; rw [← Hl.out]; simp, hb⟩
      · have hcv : (convert 24 9 (.slice (some ⟨g, 0, none⟩) done.length cap)).run Try.prog wr = .ok (.string ⟨done.toArray⟩) wr :=
          run_convert_bytes_back wr 24 9 5 ⟨g, 0, none⟩ cap done Try.underlying24 Try.underlying5 Try.underlying9 (Lib.bytes_of_row hg (by simpa using htk))
        clear hg hnc hcm hcs htk hown
        go_wp2
        go_ret3
        exact ⟨by rw [Hs.out] at Hl ⊢; rw [← Hl.out]; simp, hb⟩
    | cons c r =>
      have hdl : done.length ≤ 35184372088832 := by
        have h1 := congrArg List.length Hs.out
        have h2 := (Pl.esc_len s).1
        simp only [List.length_append] at h1
        omega
      have Hs2 : Hid (s = (done ++ [c]) ++ r) := hid (by rw [Hs.out]; simp)
      by_cases hc : c = 34 ∨ c = 92
      · have he : Pl.esc (c :: r) = 92 :: c :: Pl.esc r := by simp [Pl.esc, Pl.esc1, hc]
        rw [he] at Hd Hl
        clear he
        obtain ⟨hj, hb0, hd1⟩ := drop_head (c := 92) (rest := c :: (Pl.esc r ++ 34 :: post)) Hd.out
        obtain ⟨hj1, hb1, hd2⟩ := drop_head hd1
        have hc0 : h[jn].toNat = 92 := hb0 hj
        have hc1 : h[jn + 1].toNat = c.toNat := hb1 hj1
        have Hd2 := hid hd2
        have Hl2 : Hid (jn + 2 + (Pl.esc r).length + 1 = i + (Pl.quote s).length) := by have := Hl.out; simp only [List.length_cons] at this; exact hid (by omega)
        clear hb0 hb1 hd1 hd2 Hd Hs Hl
        rcases hc with rfl | rfl
        · rw [show ((34 : UInt8).toNat) = 34 from rfl] at hc1
          go_wp2_with (at_builtin; refine wpList_append_own _ rfl (.tmp 60) (.tmp 62) 24 rfl w.heap.size 5 i0 (.int .u8 0) 1 1 Try.underlying24 hi hz0 hz1 hz2 rfl (by decide) _ _ _ rfl (hown.alloc _) ⟨wr.heap.size, 0, none⟩ 1 1 [.int .u8 34] rfl rfl (cell_one_new _ _ _) (fun x hx => by simp at hx; subst hx; rfl) (by unfold maxLen; omega) (by omega) (by have := hb.size; simp; omega) ?_; intro v' w1 hown' hgrow hnil; have R := hid (rel_app (c := 34) rfl hown hb hown' hgrow); clear hown' hgrow hnil)
          go_roundw
          case rel => exact ⟨_, r, jn + 2, Hs2, by go_num, R.out.1, Hd2, Hl2, R.out.2⟩
          case measure => simp [intOf]; omega
        · rw [show ((92 : UInt8).toNat) = 92 from rfl] at hc1
          go_wp2_with (at_builtin; refine wpList_append_own _ rfl (.tmp 60) (.tmp 62) 24 rfl w.heap.size 5 i0 (.int .u8 0) 1 1 Try.underlying24 hi hz0 hz1 hz2 rfl (by decide) _ _ _ rfl (hown.alloc _) ⟨wr.heap.size, 0, none⟩ 1 1 [.int .u8 92] rfl rfl (cell_one_new _ _ _) (fun x hx => by simp at hx; subst hx; rfl) (by unfold maxLen; omega) (by omega) (by have := hb.size; simp; omega) ?_; intro v' w1 hown' hgrow hnil; have R := hid (rel_app (c := 92) rfl hown hb hown' hgrow); clear hown' hgrow hnil)
          go_roundw
          case rel => exact ⟨_, r, jn + 2, Hs2, by go_num, R.out.1, Hd2, Hl2, R.out.2⟩
          case measure => simp [intOf]; omega
      · have he : Pl.esc (c :: r) = c :: Pl.esc r := by simp [Pl.esc, Pl.esc1, hc]
        rw [he] at Hd Hl
        clear he
        obtain ⟨hj, hb0, hd1⟩ := drop_head (rest := Pl.esc r ++ 34 :: post) Hd.out
        have hc0 : h[jn].toNat = c.toNat := hb0 hj
        obtain ⟨n34, n92⟩ := not_or.1 hc
        have c34 : ((c.toNat : Int) == 34) = false := by
          rw [beq_eq_false_iff_ne]; intro e; exact n34 (UInt8.toNat_inj.1 (by show c.toNat = 34; omega))
        have c92 : ((c.toNat : Int) == 92) = false := by
          rw [beq_eq_false_iff_ne]; intro e; exact n92 (UInt8.toNat_inj.1 (by show c.toNat = 92; omega))
        have Hd2 := hid hd1
        have Hl2 : Hid (jn + 1 + (Pl.esc r).length + 1 = i + (Pl.quote s).length) := by have := Hl.out; simp only [List.length_cons] at this; exact hid (by omega)
        clear hb0 hd1 Hd Hs Hl hc n34 n92
        go_wp2_with (at_builtin; refine wpList_append_own _ rfl (.tmp 66) (.tmp 68) 24 rfl w.heap.size 5 i0 (.int .u8 0) 1 1 Try.underlying24 hi hz0 hz1 hz2 rfl (by decide) _ _ _ rfl (hown.alloc _) ⟨wr.heap.size, 0, none⟩ 1 1 [.int .u8 c.toNat] rfl rfl (cell_one_new _ _ _) (fun x hx => by simp at hx; subst hx; rfl) (by unfold maxLen; omega) (by omega) (by have := hb.size; simp; omega) ?_; intro v' w1 hown' hgrow hnil; have R := hid (rel_app (c := c) rfl hown hb hown' hgrow); clear hown' hgrow hnil)
        go_roundw
        case rel => exact ⟨_, r, jn + 1, Hs2, by go_num, R.out.1, Hd2, Hl2, R.out.2⟩
        case measure => simp [intOf]; omega
end Go.Proofs.Qxb6603960a
