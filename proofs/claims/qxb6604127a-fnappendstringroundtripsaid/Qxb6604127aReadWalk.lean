/-
  THE WALK OF readJSONString, at a text that is a JSON string.
-/
import Derived.Test.Qxb6604127aCloneWalk
namespace Go.Proofs.Qxb6604127a
open Go.RowKit

theorem drop_cell {q : List UInt8} {i : Nat} {c : UInt8} {r : List UInt8} (e : q.drop i = c :: r) : i < q.length ∧ q.getD i 0 = c ∧ q.drop (i + 1) = r := by
  have hj : i < q.length := by
    rcases Nat.lt_or_ge i q.length with hlt | hge
    · exact hlt
    · rw [List.drop_eq_nil_of_le hge] at e; cases e
  rw [List.drop_eq_getElem_cons hj] at e
  injection e with e3 e4
  exact ⟨hj, by rw [List.getD_eq_getElem?_getD, List.getElem?_eq_getElem hj]; exact e3, e4⟩

/-- The number read behind m of the four digits. -/
def dig4 (c m : Nat) : Nat := if m ≤ 2 then 0 else if m = 3 then c / 16 else c

def dg (c m : Nat) : Nat := if m ≤ 1 then 0 else if m = 2 then c / 16 else c % 16

theorem dig_step (c m : Nat) (hm : m < 4) : dig4 c m * 16 + dg c m = dig4 c (m + 1) := by
  rcases (by omega : m = 0 ∨ m = 1 ∨ m = 2 ∨ m = 3) with rfl | rfl | rfl | rfl <;> simp [dig4, dg]
  omega

theorem dig_lt (c m : Nat) (hc : c < 32) : dig4 c m < 32 := by
  unfold dig4; split
  · omega
  · split <;> omega

set_option maxHeartbeats 4000000 in
set_option maxRecDepth 100000 in
theorem read_any (g o L cp : Nat) (q s : List UInt8) (w : World) (hq : q = Pl.quote s) (hL : L = q.length) (hsz : L ≤ 35184372088832) (hg : g < w.heap.size)
    (hc : ∀ j, j < L → w.cell? ⟨g, o + j, none⟩ = some (.int .u8 ((q.getD j 0).toNat : Int))) :
    Calls Try.prog 11 #[.slice (some ⟨g, o, none⟩) L cp] w fun e w' => ∃ v, e = .returned (.tuple #[v, .bool true]) ∧ AS w w' v [] s := by
  obtain ⟨i0, hi, hz0, hz1, hz2⟩ := info_parts Try.info5
  have hlq := (Pl.quote_len s).1
  rw [← hq, ← hL] at hlq
  have hd0 : q.drop 0 = 34 :: (Pl.esc s ++ [34]) := by rw [hq]; rfl
  obtain ⟨_, f0, d1⟩ := drop_cell hd0
  have c0 := hc 0 (by omega)
  rw [f0] at c0
  rw [show ((34 : UInt8).toNat : Int) = 34 from rfl] at c0
  have c0' : w.cell? ⟨g, o, none⟩ = some (.int .u8 34) := c0
  have b0 : ((L : Int) < 2) = False := by simp; omega
  obtain ⟨x1, hmk, own1, gr1⟩ := run_make_own (P := Try.prog) w w.heap.size 22 5 i0 (.int .u8 0) 1 Try.underlying22 hi hz0 hz1 .i64 .i64 L (by rw [hz2]; omega) (by unfold maxLen; omega) (Nat.le_refl _)
  have A1 : AS w x1 (.slice (some ⟨w.heap.size, 0, none⟩) 0 L) [] [] := ⟨by simpa [Lib.byteCells] using own1, Below.grown (Below.refl _ w) gr1 (Nat.le_refl _) (fun k hk => by cases hk)⟩
  have HA1 := hid A1
  have HC := hid hc
  have D1 := hid d1
  have HL := hid hL
  clear hd0 f0 c0 d1 A1 own1 gr1 hc hq hL b0
  have bL : decide ((L : Int) < 2) = false := decide_eq_false (by omega)
  go_enter Try.func11, Try.ntmps11
  go_wp2
  go_loopw [4, 5] (fun v i x => ∃ (done todo : List UInt8) (p : Nat), Hid (s = done ++ todo) ∧ i = .int .i64 p ∧ Hid (AS w x v [] done) ∧ Hid (q.drop p = Pl.esc todo ++ [34])) (fun _ i _ => L - (intOf i).toNat)
  case atStart => exact ⟨[], s, 1, hid rfl, rfl, HA1, D1⟩
  case round =>
    obtain ⟨done, todo, p, Hs, rfl, HA, HD⟩ := hrel
    clear HA1 D1
    have cell : Hid (∀ j, j < L → wr.cell? ⟨g, o + j, none⟩ = some (.int .u8 ((q.getD j 0).toNat : Int))) := hid (fun j hj => (HA.out.bel.cell (p := ⟨g, o + j, none⟩) hg).trans (HC.out j hj))
    have hdl : done.length ≤ 35184372088832 := by
      have h1 := congrArg List.length Hs.out
      simp only [List.length_append] at h1
      omega
    cases todo with
    | nil =>
      obtain ⟨t1, t2, t3⟩ := drop_cell (c := 34) (r := []) HD.out
      rw [← HL.out] at t1
      have hpl : p + 1 = L := by
        have := congrArg List.length t3
        simp at this
        have := HL.out
        omega
      have c1 := cell.out p t1
      rw [t2, show ((34 : UInt8).toNat : Int) = 34 from rfl] at c1
      have hfin : ((p : Int) == (L : Int) - 1) = true := by rw [beq_iff_eq]; omega
      have b1 : (0 : Int) ≤ (p : Int) := by omega
      have b2 : (p : Int) < (L : Int) := by omega
      have hs : s = done := by have := Hs.out; simpa using this
      have HS := hid hs
      clear t2 t3 hs hpl
      go_wp2
      go_ret2
      exact ⟨_, rfl, by rw [HS.out]; exact HA.out⟩
    | cons c r =>
      have Hs2 : Hid (s = (done ++ [c]) ++ r) := hid (by rw [Hs.out]; simp)
      have hdl1 : Hid (done.length + 1 ≤ 35184372088832) := by
        have h1 := congrArg List.length Hs.out
        simp only [List.length_append, List.length_cons] at h1
        exact hid (by omega)
      have hd := HD.out
      by_cases hm : c = 34 ∨ c = 92
      · have he : Pl.esc (c :: r) ++ [34] = 92 :: c :: (Pl.esc r ++ [34]) := by simp [Pl.esc, Pl.esc1_mark c hm]
        rw [he] at hd
        obtain ⟨t1, t2, t3⟩ := drop_cell hd
        obtain ⟨t4, t5, t6⟩ := drop_cell t3
        rw [← HL.out] at t1 t4
        have c1 := cell.out p t1
        have c2 := cell.out (p + 1) t4
        rw [t2, show ((92 : UInt8).toNat : Int) = 92 from rfl] at c1
        rw [t5] at c2
        have b1 : (0 : Int) ≤ (p : Int) := by omega
        have b2 : (p : Int) < (L : Int) := by omega
        have b3 : (p : Int) + 1 < (L : Int) := by omega
        have D2 := hid t6
        clear hd t2 t3 t5 t6 he
        rcases hm with rfl | rfl
        · rw [show ((34 : UInt8).toNat : Int) = 34 from rfl] at c2
          go_wp2_with (at_builtin; refine wpList_append_own _ rfl (.tmp 65) (.tmp 67) 22 rfl w.heap.size 5 i0 (.int .u8 0) 1 1 Try.underlying22 hi hz0 hz1 hz2 rfl (by decide) _ _ _ rfl (HA.out.own.alloc _) ⟨wr.heap.size, 0, none⟩ 1 1 [.int .u8 34] rfl rfl (cell_one_new _ _ _) (fun x hx => by simp at hx; subst hx; rfl) ?d2 ?d3 ?d4 ?_)
          case d2 => unfold maxLen; first | omega | (simp only [List.length_nil]; omega)
          case d3 => first | omega | (simp only [List.length_nil]; omega)
          case d4 => have := HA.out.bel.size; simp; omega
          intro v3 x3 hown3 hg3 _
          have A3 : AS w x3 v3 [] (done ++ [34]) := HA.out.step ((Below.refl _ _).alloc HA.out.bel.size _) (by have := HA.out.bel.size; simp; omega) hown3 hg3 (by simp) (by simp [Lib.byteCells])
          have HA3 := hid A3
          clear A3 hown3 hg3
          go_wp2
          go_roundw
          case rel => exact ⟨done ++ [34], r, p + 2, Hs2, by go_num, HA3, D2⟩
          case measure => simp [intOf]; omega
        · rw [show ((92 : UInt8).toNat : Int) = 92 from rfl] at c2
          go_wp2_with (at_builtin; refine wpList_append_own _ rfl (.tmp 65) (.tmp 67) 22 rfl w.heap.size 5 i0 (.int .u8 0) 1 1 Try.underlying22 hi hz0 hz1 hz2 rfl (by decide) _ _ _ rfl (HA.out.own.alloc _) ⟨wr.heap.size, 0, none⟩ 1 1 [.int .u8 92] rfl rfl (cell_one_new _ _ _) (fun x hx => by simp at hx; subst hx; rfl) ?d2 ?d3 ?d4 ?_)
          case d2 => unfold maxLen; first | omega | (simp only [List.length_nil]; omega)
          case d3 => first | omega | (simp only [List.length_nil]; omega)
          case d4 => have := HA.out.bel.size; simp; omega
          intro v3 x3 hown3 hg3 _
          have A3 : AS w x3 v3 [] (done ++ [92]) := HA.out.step ((Below.refl _ _).alloc HA.out.bel.size _) (by have := HA.out.bel.size; simp; omega) hown3 hg3 (by simp) (by simp [Lib.byteCells])
          have HA3 := hid A3
          clear A3 hown3 hg3
          go_wp2
          go_roundw
          case rel => exact ⟨done ++ [92], r, p + 2, Hs2, by go_num, HA3, D2⟩
          case measure => simp [intOf]; omega
      · obtain ⟨m34, m92⟩ := not_or.1 hm
        have n34 : c.toNat ≠ 34 := fun h => m34 (UInt8.toNat_inj.1 h)
        have n92 : c.toNat ≠ 92 := fun h => m92 (UInt8.toNat_inj.1 h)
        by_cases h32 : c.toNat < 32
        · have he : Pl.esc (c :: r) ++ [34] = 92 :: 117 :: 48 :: 48 :: Pl.hexL.getD (c.toNat / 16) 0 :: Pl.hexL.getD (c.toNat % 16) 0 :: (Pl.esc r ++ [34]) := by simp [Pl.esc, Pl.esc1_ctl c h32]
          rw [he] at hd
          obtain ⟨t1, f1, d1⟩ := drop_cell hd
          obtain ⟨t2, f2, d2⟩ := drop_cell d1
          obtain ⟨t3, f3, d3⟩ := drop_cell d2
          obtain ⟨t4, f4, d4⟩ := drop_cell d3
          obtain ⟨t5, f5, d5⟩ := drop_cell d4
          obtain ⟨t6, f6, d6⟩ := drop_cell d5
          rw [← HL.out] at t1 t2 t6
          have DIG : Hid (∀ m, m < 4 → q.getD (p + 2 + m) 0 = Pl.hexL.getD (dg c.toNat m) 0) := by
            refine hid fun m hm4 => ?_
            rcases (by omega : m = 0 ∨ m = 1 ∨ m = 2 ∨ m = 3) with rfl | rfl | rfl | rfl
            · exact f3
            · exact f4
            · exact f5
            · exact f6
          have c1 := cell.out p t1
          have c2 := cell.out (p + 1) t2
          rw [f1, show ((92 : UInt8).toNat : Int) = 92 from rfl] at c1
          rw [f2, show ((117 : UInt8).toNat : Int) = 117 from rfl] at c2
          have D6 := hid d6
          have b1 : (0 : Int) ≤ (p : Int) := by omega
          have b2 : (p : Int) < (L : Int) := by omega
          have b3 : (p : Int) + 1 < (L : Int) := by omega
          have b4 : (p : Int) + 5 < (L : Int) := by omega
          clear hd he f1 f2 f3 f4 f5 f6 d1 d2 d3 d4 d5 d6 t2 t3 t4 t5 hm n34 n92 m34 m92
          go_wp2
          go_loop [8, 9] (fun v k => ∃ m V kk : Nat, m ≤ 4 ∧ Hid (V = dig4 c.toNat m) ∧ Hid (kk = p + 2 + m) ∧ V < 32 ∧ p + 2 ≤ kk ∧ kk ≤ p + 6 ∧ v = .int .u32 V ∧ k = .int .i64 kk) (fun _ k => p + 6 - (intOf k).toNat)
          case atStart => exact ⟨0, 0, p + 2, by omega, hid rfl, hid rfl, by omega, by omega, by omega, rfl, by go_num⟩
          case round =>
            obtain ⟨m, V, kk, hm4, HVm, Hkk, hV32, hk1, hk2, rfl, rfl⟩ := hrel
            by_cases hmlt : m < 4
            · have hkl : kk < p + 6 := by have := Hkk.out; omega
              have ck := cell.out kk (by omega)
              have hdg : dg c.toNat m < 16 := by unfold dg; split; omega; split <;> omega
              obtain ⟨d, hdd⟩ : ∃ d, d = dg c.toNat m := ⟨_, rfl⟩
              have HN : Hid (((q.getD kk 0).toNat : Int) = ((Pl.hexL.getD d 0).toNat : Int)) := hid (by rw [Hkk.out, DIG.out m hmlt, hdd])
              rw [← hdd] at hdg
              have HDV : Hid (V * 16 + d = dig4 c.toNat (m + 1)) := hid (by rw [HVm.out, hdd]; exact dig_step c.toNat m hmlt)
              have hbV : V * 16 + d < 32 := by rw [HDV.out]; exact dig_lt c.toNat (m + 1) h32
              clear hdd
              generalize ((q.getD kk 0).toNat : Int) = nn at ck HN
              have b5 : (0 : Int) ≤ (kk : Int) := by omega
              have b6 : (kk : Int) < (L : Int) := by omega
              have b7 : (kk : Int) < (p : Int) + 6 := by omega
              go_wp2_with fail
              have H := hex_any d nn wr hdg HN.out
              refine H.mono ?_
              rintro e y ⟨rfl, rfl⟩
              clear H
              go_wp2
              go_round
              case rel => exact ⟨m + 1, V * 16 + d, kk + 1, by omega, HDV, hid (by rw [Hkk.out]; rfl), hbV, by omega, by omega, by go_num, by go_num⟩
              case measure => simp [intOf]; omega
            · have hm4' : m = 4 := by omega
              subst hm4'
              have hVc : V = c.toNat := by rw [HVm.out]; rfl
              subst hVc
              have hkp : kk = p + 6 := Hkk.out
              have b7 : ¬ (kk : Int) < (p : Int) + 6 := by omega
              have b8 : decide ((55296 : Int) ≤ (c.toNat : Int)) = false := decide_eq_false (by omega)
              clear hkp hm4 hmlt HVm
              go_wp2_with fail
              have H := utf_any w wr _ done c HA.out (by omega) hdl1.out
              refine H.mono ?_
              rintro e x3 ⟨v3, rfl, hA3⟩
              clear H
              have HA3 := hid hA3
              clear hA3
              go_wp2
              go_roundw
              case rel => exact ⟨done ++ [c], r, p + 6, Hs2, by go_num, HA3, D6⟩
              case measure => simp [intOf]; omega
        · have he : Pl.esc (c :: r) ++ [34] = c :: (Pl.esc r ++ [34]) := by simp [Pl.esc, Pl.esc1_plain c m34 m92 (by omega)]
          rw [he] at hd
          obtain ⟨t1, t2, t3⟩ := drop_cell hd
          rw [← HL.out] at t1
          have c1 := cell.out p t1
          rw [t2] at c1
          have b1 : (0 : Int) ≤ (p : Int) := by omega
          have b2 : (p : Int) < (L : Int) := by omega
          have e1 : ((c.toNat : Int) == 34) = false := by rw [beq_eq_false_iff_ne]; omega
          have e2 : ¬ (c.toNat : Int) < 32 := by omega
          have e3 : ((c.toNat : Int) != 92) = true := by rw [bne_iff_ne]; omega
          have D2 := hid t3
          clear hd t2 t3 he hm n34 n92 m34 m92
          go_wp2_with (at_builtin; refine wpList_append_own _ rfl (.tmp 44) (.tmp 46) 22 rfl w.heap.size 5 i0 (.int .u8 0) 1 1 Try.underlying22 hi hz0 hz1 hz2 rfl (by decide) _ _ _ rfl (HA.out.own.alloc _) ⟨wr.heap.size, 0, none⟩ 1 1 [.int .u8 (c.toNat : Int)] rfl rfl (cell_one_new _ _ _) (fun x hx => by simp at hx; subst hx; rfl) ?d2 ?d3 ?d4 ?_)
          case d2 => unfold maxLen; first | omega | (simp only [List.length_nil]; omega)
          case d3 => first | omega | (simp only [List.length_nil]; omega)
          case d4 => have := HA.out.bel.size; simp; omega
          intro v3 x3 hown3 hg3 _
          have A3 : AS w x3 v3 [] (done ++ [c]) := HA.out.step ((Below.refl _ _).alloc HA.out.bel.size _) (by have := HA.out.bel.size; simp; omega) hown3 hg3 (by simp) (by simp [Lib.byteCells])
          have HA3 := hid A3
          clear A3 hown3 hg3
          go_wp2
          go_roundw
          case rel => exact ⟨done ++ [c], r, p + 1, Hs2, by go_num, HA3, D2⟩
          case measure => simp [intOf]; omega
end Go.Proofs.Qxb6604127a
