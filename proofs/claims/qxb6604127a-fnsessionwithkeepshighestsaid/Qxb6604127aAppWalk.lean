/-
  THE WALK OF appendString.
-/
import Derived.Test.Qxb6604127aProg
import Derived.Test.Qxb6604127aPlain
import Derived.WalkKit
import Derived.WalkSpells
import Derived.WalkLawsBesides
import Derived.BigCall
import Derived.ArgAppend
import Derived.Lib.AppendStr
import Derived.Lib.UnsafeStr
import Derived.Lib.Strings
import Derived.Deep.RegionHeld3
import Derived.Deep.AppendLies
import Derived.Laws.BitsAllLaws
namespace Go.Proofs.Qxb6604127a
open Go.RowKit

theorem Try.info5 : (Try.prog.info? 5).map (fun i => (i.zero, i.size, i.bytes)) = some (some (.int .u8 0), 1, 1) := by kernel_rfl

theorem hid {p : Prop} (h : p) : Hid p := h

theorem take_snoc (s : ByteArray) (k : Nat) (h : k < s.size) : s.data.toList.take (k + 1) = s.data.toList.take k ++ [s[k]] := by
  rw [List.take_succ_eq_append_getElem (by simpa using h)]; rfl

theorem own_mono {w : World} {base base' : Nat} {e : TypeId} {size : Nat} {v : Value} {n : Nat} {xs : List Value} (h : w.ownsRow base e size v n xs) (hb : base' ≤ base) : w.ownsRow base' e size v n xs := by
  refine ⟨h.1, ?_⟩
  rcases h.2 with h2 | ⟨g, cap, cur, h3, h4, h5⟩
  · exact Or.inl h2
  · exact Or.inr ⟨g, cap, cur, h3, Nat.le_trans hb h4, h5⟩

/-- What the appends leave: the row that the call owns, and old memory as it was. -/
structure AS (w x : World) (v : Value) (xs : List Value) (l : List UInt8) : Prop where
  own : x.ownsRow w.heap.size 5 1 v (xs.length + l.length) (xs ++ Lib.byteCells l)
  bel : Below w.heap.size w x

theorem AS.step {w x y x1 : World} {v v' : Value} {xs C : List Value} {l l' : List UInt8} {N : Nat} (h : AS w x v xs l) (hy : Below w.heap.size x y) (hz : w.heap.size ≤ y.heap.size)
    (hown' : x1.ownsRow w.heap.size 5 1 v' N C) (hg : y.grownBy x1 v.ownBlock) (hN : N = xs.length + l'.length) (hC : C = xs ++ Lib.byteCells l') : AS w x1 v' xs l' := by
  subst hN hC
  exact ⟨hown', Below.grown (h.bel.trans hy) hg hz (fun j hj => (h.own.lt _ hj).1)⟩

/-- The slice that comes in: nil, or n cells that fill it. -/
structure Full (w : World) (ao : Option Addr) (xs : List Value) : Prop where
  none_ : ao = none → xs = []
  cells : ∀ b, ao = some b → ∀ j u, xs[j]? = some u → w.cell? (b.add j) = some u
  old : ∀ b, ao = some b → ∀ j, (b.add j).block < w.heap.size

theorem and15 (n : Nat) : n &&& 15 = n % 16 := Nat.and_two_pow_sub_one_eq_mod n 4

theorem hex_at (i : Nat) (h : i < (⟨#[48, 49, 50, 51, 52, 53, 54, 55, 56, 57, 97, 98, 99, 100, 101, 102]⟩ : ByteArray).size) : (⟨#[48, 49, 50, 51, 52, 53, 54, 55, 56, 57, 97, 98, 99, 100, 101, 102]⟩ : ByteArray)[i] = Pl.hexL.getD i 0 := by
  have h16 : i < 16 := h
  rcases (by omega : i = 0 ∨ i = 1 ∨ i = 2 ∨ i = 3 ∨ i = 4 ∨ i = 5 ∨ i = 6 ∨ i = 7 ∨ i = 8 ∨ i = 9 ∨ i = 10 ∨ i = 11 ∨ i = 12 ∨ i = 13 ∨ i = 14 ∨ i = 15) with rfl | rfl | rfl | rfl | rfl | rfl | rfl | rfl | rfl | rfl | rfl | rfl | rfl | rfl | rfl | rfl <;> rfl

theorem esc_grow (L : List UInt8) (st i : Nat) (c : UInt8) (h1 : st ≤ i) (hi : L.take (i + 1) = L.take i ++ [c]) (hp : Pl.esc1 c = [c]) (h : Pl.esc (L.take i) = Pl.esc (L.take st) ++ (L.drop st).take (i - st)) :
    Pl.esc (L.take (i + 1)) = Pl.esc (L.take st) ++ (L.drop st).take (i + 1 - st) := by
  rw [hi, Pl.esc_append, h, Pl.esc_one, hp, List.append_assoc]
  congr 1
  have e1 : (L.drop st).take (i - st) = (L.take i).drop st := by rw [List.drop_take]
  have e2 : (L.drop st).take (i + 1 - st) = (L.take (i + 1)).drop st := by rw [List.drop_take]
  have hlen : (L.take i).length < st ∨ st ≤ (L.take i).length := Nat.lt_or_ge _ _
  rw [e1, e2, hi]
  rcases hlen.symm with hl | hl
  · rw [List.drop_append_of_le_length hl]
  · have hil : L.length < i + 1 := by
      have : (L.take i).length = min i L.length := List.length_take
      omega
    have : (L.take (i + 1)).length = L.length := by rw [List.length_take]; omega
    have t : (L.take i).length + 1 = L.length := by rw [← this, hi]; simp
    have : (L.take i).length = min i L.length := List.length_take
    omega


set_option maxHeartbeats 4000000 in
set_option maxRecDepth 100000 in
theorem app_any (ao : Option Addr) (xs : List Value) (n : Nat) (s : ByteArray) (w : World) (hn : xs.length = n) (hF : Full w ao xs) (hb : xs.length + 6 * s.size + 16 ≤ 35184372088832) :
    Calls Try.prog 21 #[.slice ao n n, .string s] w fun e w' => ∃ v, e = .returned v ∧ AS w w' v xs (Pl.quote s.data.toList) := by
  obtain ⟨i0, hi, hz0, hz1, hz2⟩ := info_parts Try.info5
  subst hn
  have HF := hid hF
  clear hF
  go_enter Try.func21, Try.ntmps21
  go_wp2_with (at_builtin; refine wpList_append_grows _ rfl (.tmp 8) (.tmp 9) 22 rfl 5 i0 (.int .u8 0) 1 1 Try.underlying22 hi hz0 hz1 hz2 rfl (by decide) ao xs.length xs.length xs rfl ?hn0 ?hl0 ?hc0 ⟨w.heap.size, 0, none⟩ 1 1 [.int .u8 34] rfl rfl (cell_one_new _ _ _) (fun x hx => by simp at hx; subst hx; rfl) (by omega) (by unfold maxLen; omega) (by omega) ?_)
  case hn0 => intro h; simp [HF.out.none_ h]
  case hl0 => simp
  case hc0 =>
    intro b hbb j u hj
    have := HF.out.cells b hbb j u hj
    rw [← this]
    exact World.cell?_alloc_lt _ _ _ (HF.out.old b hbb j)
  intro v1 x1 hown1 hg1
  have A1 : AS w x1 v1 xs [34] := ⟨own_mono hown1 (by simp), Below.grown ((Below.refl _ w).alloc (Nat.le_refl _) _) hg1 (by simp) (fun k hk => by cases hk)⟩
  have HA1 := hid A1
  clear hown1 hg1 A1
  go_wp2
  go_loopw [0, 5, 6] (fun v st i x => ∃ a k : Nat, a ≤ k ∧ k ≤ s.size ∧ st = .int .i64 a ∧ i = .int .i64 k ∧ Hid (AS w x v xs (34 :: Pl.esc (s.data.toList.take a))) ∧ Hid (Pl.esc (s.data.toList.take k) = Pl.esc (s.data.toList.take a) ++ (s.data.toList.drop a).take (k - a))) (fun _ _ i _ => s.size - (intOf i).toNat)
  case atStart => exact ⟨0, 0, Nat.le_refl _, Nat.zero_le _, rfl, rfl, HA1, hid (by simp [Pl.esc])⟩
  case round =>
    obtain ⟨a, k, hak, hk, rfl, rfl, HA, HE⟩ := hrel
    clear HA1 HF
    have hL : (Pl.esc (s.data.toList.take a)).length ≤ 6 * a := by
      have h2 := (Pl.esc_len (s.data.toList.take a)).2
      have h3 : (s.data.toList.take a).length ≤ a := List.length_take_le _ _
      omega
    by_cases hlt : k < s.size
    · have hts := take_snoc s k hlt
      have hb8 : s[k].toNat < 256 := s[k].toNat_lt
      by_cases hpl : 32 ≤ s[k].toNat ∧ s[k].toNat ≠ 34 ∧ s[k].toNat ≠ 92
      · obtain ⟨p1, p2, p3⟩ := hpl
        have hpp : Pl.esc1 s[k] = [s[k]] := Pl.esc1_plain _ (fun h => p2 (by rw [h]; rfl)) (fun h => p3 (by rw [h]; rfl)) p1
        have HE2 := hid (esc_grow s.data.toList a k s[k] hak hts hpp HE.out)
        have t1 : (32 : Int) ≤ (s[k].toNat : Int) := by omega
        have t2 : ((s[k].toNat : Int) != 34) = true := by rw [bne_iff_ne]; omega
        have t3 : ((s[k].toNat : Int) != 92) = true := by rw [bne_iff_ne]; omega
        clear hpp hts p1 p2 p3
        go_wp2
        go_roundw
        case rel => exact ⟨a, k + 1, by omega, by omega, rfl, by go_num, HA, HE2⟩
        case measure => simp [intOf]; omega
      · have hsx : (s.extract a k).size = k - a := by simp; omega
        have hLk : (Pl.esc (s.data.toList.take k)).length ≤ 6 * k := by
          have h2 := (Pl.esc_len (s.data.toList.take k)).2
          have h3 : (s.data.toList.take k).length ≤ k := List.length_take_le _ _
          omega
        have HTS := hid hts
        clear hts
        by_cases hm : s[k].toNat = 34
        · clear hpl
          have he1 : Pl.esc1 s[k] = [92, 34] := by
            have : s[k] = 34 := UInt8.toNat_inj.1 hm
            rw [this]; rfl
          have HE1 := hid he1
          clear he1
          go_wp2_with (at_builtin; refine Lib.wpList_append_own_string _ rfl (.tmp 30) (.tmp 34) 22 9 rfl w.heap.size 5 i0 Try.underlying22 Try.underlying9 hi hz0 hz1 hz2 _ _ _ rfl HA.out.own (s.extract a k) rfl ?c1 ?c2 ?c3 ?_)
          case c1 => simp only [List.length_cons, hsx]; unfold maxLen; omega
          case c2 => simp only [List.length_cons, hsx]; omega
          case c3 => exact HA.out.bel.size
          intro v2 x2 hown2 hg2 _
          have A2 : AS w x2 v2 xs (34 :: Pl.esc (s.data.toList.take k)) := HA.out.step (Below.refl _ _) HA.out.bel.size hown2 hg2 (by rw [HE.out, ← Lib.extract_data]; simp only [List.length_cons, List.length_append, ← Lib.size_eq, hsx]; omega) (by rw [HE.out, ← Lib.extract_data, Lib.strCells_eq]; simp [Lib.byteCells])
          have HA2 := hid A2
          clear A2 hown2 hg2
          go_wp2_with (at_builtin; refine wpList_append_own _ rfl (.tmp 42) (.tmp 44) 22 rfl w.heap.size 5 i0 (.int .u8 0) 1 1 Try.underlying22 hi hz0 hz1 hz2 rfl (by decide) _ _ _ rfl (HA2.out.own.alloc _) ⟨x2.heap.size, 0, none⟩ 2 2 [.int .u8 92, .int .u8 34] rfl rfl ?d0 ?d1 ?d2 ?d3 ?d4 ?_)
          case d0 => exact World.news_of_block (cs := #[.int .u8 92, .int .u8 34]) (t := 5) (fr := (0, 0)) (heap_alloc_new x2 _)
          case d1 => intro u hu; simp at hu; rcases hu with rfl | rfl <;> rfl
          case d2 => simp only [List.length_cons]; unfold maxLen; omega
          case d3 => simp only [List.length_cons]; omega
          case d4 => have := HA2.out.bel.size; simp; omega
          intro v3 x3 hown3 hg3 _
          have A3 : AS w x3 v3 xs (34 :: Pl.esc (s.data.toList.take (k + 1))) := HA2.out.step ((Below.refl _ _).alloc HA2.out.bel.size _) (by have := HA2.out.bel.size; simp; omega) hown3 hg3 (by rw [HTS.out, Pl.esc_append, Pl.esc_one, HE1.out]; simp; omega) (by rw [HTS.out, Pl.esc_append, Pl.esc_one, HE1.out]; simp [Lib.byteCells])
          have HA3 := hid A3
          clear A3 hown3 hg3
          go_wp2
          go_roundw
          case rel => exact ⟨k + 1, k + 1, by omega, by omega, by go_num, by go_num, HA3, hid (by simp)⟩
          case measure => simp [intOf]; omega
        by_cases hm : s[k].toNat = 92
        · clear hpl
          have he1 : Pl.esc1 s[k] = [92, 92] := by
            have : s[k] = 92 := UInt8.toNat_inj.1 hm
            rw [this]; rfl
          have HE1 := hid he1
          clear he1
          go_wp2_with (at_builtin; refine Lib.wpList_append_own_string _ rfl (.tmp 30) (.tmp 34) 22 9 rfl w.heap.size 5 i0 Try.underlying22 Try.underlying9 hi hz0 hz1 hz2 _ _ _ rfl HA.out.own (s.extract a k) rfl ?c1 ?c2 ?c3 ?_)
          case c1 => simp only [List.length_cons, hsx]; unfold maxLen; omega
          case c2 => simp only [List.length_cons, hsx]; omega
          case c3 => exact HA.out.bel.size
          intro v2 x2 hown2 hg2 _
          have A2 : AS w x2 v2 xs (34 :: Pl.esc (s.data.toList.take k)) := HA.out.step (Below.refl _ _) HA.out.bel.size hown2 hg2 (by rw [HE.out, ← Lib.extract_data]; simp only [List.length_cons, List.length_append, ← Lib.size_eq, hsx]; omega) (by rw [HE.out, ← Lib.extract_data, Lib.strCells_eq]; simp [Lib.byteCells])
          have HA2 := hid A2
          clear A2 hown2 hg2
          go_wp2_with (at_builtin; refine wpList_append_own _ rfl (.tmp 42) (.tmp 44) 22 rfl w.heap.size 5 i0 (.int .u8 0) 1 1 Try.underlying22 hi hz0 hz1 hz2 rfl (by decide) _ _ _ rfl (HA2.out.own.alloc _) ⟨x2.heap.size, 0, none⟩ 2 2 [.int .u8 92, .int .u8 92] rfl rfl ?d0 ?d1 ?d2 ?d3 ?d4 ?_)
          case d0 => exact World.news_of_block (cs := #[.int .u8 92, .int .u8 92]) (t := 5) (fr := (0, 0)) (heap_alloc_new x2 _)
          case d1 => intro u hu; simp at hu; rcases hu with rfl | rfl <;> rfl
          case d2 => simp only [List.length_cons]; unfold maxLen; omega
          case d3 => simp only [List.length_cons]; omega
          case d4 => have := HA2.out.bel.size; simp; omega
          intro v3 x3 hown3 hg3 _
          have A3 : AS w x3 v3 xs (34 :: Pl.esc (s.data.toList.take (k + 1))) := HA2.out.step ((Below.refl _ _).alloc HA2.out.bel.size _) (by have := HA2.out.bel.size; simp; omega) hown3 hg3 (by rw [HTS.out, Pl.esc_append, Pl.esc_one, HE1.out]; simp; omega) (by rw [HTS.out, Pl.esc_append, Pl.esc_one, HE1.out]; simp [Lib.byteCells])
          have HA3 := hid A3
          clear A3 hown3 hg3
          go_wp2
          go_roundw
          case rel => exact ⟨k + 1, k + 1, by omega, by omega, by go_num, by go_num, HA3, hid (by simp)⟩
          case measure => simp [intOf]; omega
        have hc32 : s[k].toNat < 32 := by omega
        have t1 : ¬ (32 : Int) ≤ (s[k].toNat : Int) := by omega
        have t2 : ((s[k].toNat : Int) == 34) = false := by rw [beq_eq_false_iff_ne]; omega
        have t3 : ((s[k].toNat : Int) == 92) = false := by rw [beq_eq_false_iff_ne]; omega
        have HE1 := hid (Pl.esc1_ctl s[k] hc32)
        obtain ⟨lo, hlo⟩ : ∃ lo, lo = s[k].toNat % 16 := ⟨_, rfl⟩
        obtain ⟨hg, hhg⟩ : ∃ hg, hg = s[k].toNat / 16 := ⟨_, rfl⟩
        rw [← hlo, ← hhg] at HE1
        have hand : bits .and .u8 (s[k].toNat : Int) 15 = (lo : Int) := by
          have := u8_and_nat s[k].toNat 15 (by omega) (by omega)
          rw [hlo, ← and15]; exact this
        have hshr : (s[k].toNat : Int) / 16 = (hg : Int) := by rw [hhg]; omega
        have hlo16 : lo < 16 := by omega
        have hhg16 : hg < 16 := by omega
        have b1 : (0 : Int) ≤ (lo : Int) := by omega
        have b2 : (lo : Int) < 16 := by omega
        have b3 : (0 : Int) ≤ (hg : Int) := by omega
        have b4 : (hg : Int) < 16 := by omega
        clear hlo hhg
        clear hpl hm
        go_wp2_with (at_builtin; refine Lib.wpList_append_own_string _ rfl (.tmp 30) (.tmp 34) 22 9 rfl w.heap.size 5 i0 Try.underlying22 Try.underlying9 hi hz0 hz1 hz2 _ _ _ rfl HA.out.own (s.extract a k) rfl ?c1 ?c2 ?c3 ?_)
        case c1 => unfold maxLen; omega
        case c2 => omega
        case c3 => exact HA.out.bel.size
        intro v2 x2 hown2 hg2 _
        have A2 : AS w x2 v2 xs (34 :: Pl.esc (s.data.toList.take k)) := HA.out.step (Below.refl _ _) HA.out.bel.size hown2 hg2 (by rw [HE.out, ← Lib.extract_data]; simp only [List.length_cons, List.length_append, ← Lib.size_eq, hsx]; omega) (by rw [HE.out, ← Lib.extract_data, Lib.strCells_eq]; simp [Lib.byteCells])
        have HA2 := hid A2
        clear A2 hown2 hg2
        go_wp2
        have hp1 : hg < (⟨#[48, 49, 50, 51, 52, 53, 54, 55, 56, 57, 97, 98, 99, 100, 101, 102]⟩ : ByteArray).size := hhg16
        have hp2 : lo < (⟨#[48, 49, 50, 51, 52, 53, 54, 55, 56, 57, 97, 98, 99, 100, 101, 102]⟩ : ByteArray).size := hlo16
        have h63 : xs.length + (34 :: Pl.esc (s.data.toList.take k)).length + 6 ≤ maxLen := by simp only [List.length_cons]; unfold maxLen; omega
        have hby : (xs.length + (34 :: Pl.esc (s.data.toList.take k)).length + 6) * 1 ≤ 140737488355328 := by simp only [List.length_cons]; omega
        have hbz : w.heap.size ≤ x2.heap.size + 1 := by have := HA2.out.bel.size; omega
        have H63 := hid h63
        have Hby := hid hby
        clear h63 hby
        go_region_held3 (fun _ => True) (trivial) ((refine step_append_lies _ (by rfl) _ _ _ (by rfl) w.heap.size 5 i0 (.int .u8 0) 1 1 Try.underlying22 hi hz0 hz1 hz2 rfl (by decide) v2 (xs.length + (34 :: Pl.esc (s.data.toList.take k)).length) (xs ++ Lib.byteCells (34 :: Pl.esc (s.data.toList.take k))) (by rfl) ((HA2.out.own.alloc _).drew) ⟨x2.heap.size, 0, none⟩ 6 6 [.int .u8 92, .int .u8 117, .int .u8 48, .int .u8 48, .int .u8 ((⟨#[48, 49, 50, 51, 52, 53, 54, 55, 56, 57, 97, 98, 99, 100, 101, 102]⟩ : ByteArray)[hg].toNat : Nat), .int .u8 ((⟨#[48, 49, 50, 51, 52, 53, 54, 55, 56, 57, 97, 98, 99, 100, 101, 102]⟩ : ByteArray)[lo].toNat : Nat)] (by rfl) (by rfl) (World.news_of_block (cs := #[.int .u8 92, .int .u8 117, .int .u8 48, .int .u8 48, .int .u8 ((⟨#[48, 49, 50, 51, 52, 53, 54, 55, 56, 57, 97, 98, 99, 100, 101, 102]⟩ : ByteArray)[hg].toNat : Nat), .int .u8 ((⟨#[48, 49, 50, 51, 52, 53, 54, 55, 56, 57, 97, 98, 99, 100, 101, 102]⟩ : ByteArray)[lo].toNat : Nat)]) (t := 5) (fr := (0, 0)) (heap_alloc_new x2 _)) (by simp [Value.oneCell']) (by omega) H63.out Hby.out (by simp; omega) (x2.heap.size + 1) (by simp) ?_; intro g3 cap3 x3 hown3 hg3 hat3 hlt3))
        all_goals
          have A3 : AS w x3 (.slice (some ⟨g3, 0, none⟩) (xs.length + (34 :: Pl.esc (s.data.toList.take k)).length + 6) cap3) xs (34 :: Pl.esc (s.data.toList.take (k + 1))) :=
            HA2.out.step (((Below.refl _ _).alloc HA2.out.bel.size _).drew) (by simp; omega) hown3 hg3 (by rw [HTS.out, Pl.esc_append, Pl.esc_one, HE1.out]; simp; omega) (by rw [HTS.out, Pl.esc_append, Pl.esc_one, HE1.out, hex_at hg hp1, hex_at lo hp2]; simp [Lib.byteCells])
          have HA3 := hid A3
          clear A3 hown3 hg3 hat3 hlt3
          go_wp2
          go_roundw
          case rel => exact ⟨k + 1, k + 1, by omega, by omega, by go_num, by go_num, HA3, hid (by simp)⟩
          case measure => simp [intOf]; omega
    · have hks : k = s.size := by omega
      subst hks
      clear hk hlt
      have hsx : (s.extract a s.size).size = s.size - a := by simp
      have hex : Hid (Pl.esc s.data.toList = Pl.esc (s.data.toList.take a) ++ (s.extract a s.size).data.toList) := by
        have h := HE.out
        rw [List.take_of_length_le (by simp)] at h
        refine hid ?_
        rw [h, Lib.extract_data]
      go_wp2_with (at_builtin; refine Lib.wpList_append_own_string _ rfl (.tmp 57) (.tmp 60) 22 9 rfl w.heap.size 5 i0 Try.underlying22 Try.underlying9 hi hz0 hz1 hz2 _ _ _ rfl HA.out.own (s.extract a s.size) rfl ?c1 ?c2 ?c3 ?_)
      case c1 => first | (unfold maxLen; omega) | (simp only [List.length_cons, hsx]; unfold maxLen; omega)
      case c2 => first | omega | (simp only [List.length_cons, hsx]; omega)
      case c3 => exact HA.out.bel.size
      intro v2 x2 hown2 hg2 _
      have A2 : AS w x2 v2 xs (34 :: Pl.esc s.data.toList) := HA.out.step (Below.refl _ _) HA.out.bel.size hown2 hg2 (by rw [hex.out]; simp only [List.length_cons, List.length_append, ← Lib.size_eq, hsx]; omega) (by rw [hex.out, Lib.strCells_eq]; simp [Lib.byteCells])
      have HA2 := hid A2
      clear A2 hown2 hg2
      have hL2 := (Pl.esc_len s.data.toList).2
      rw [← Lib.size_eq] at hL2
      go_wp2_with (at_builtin; refine wpList_append_own _ rfl (.tmp 62) (.tmp 63) 22 rfl w.heap.size 5 i0 (.int .u8 0) 1 1 Try.underlying22 hi hz0 hz1 hz2 rfl (by decide) _ _ _ rfl (HA2.out.own.alloc _) ⟨x2.heap.size, 0, none⟩ 1 1 [.int .u8 34] rfl rfl (cell_one_new _ _ _) (fun x hx => by simp at hx; subst hx; rfl) ?d2 ?d3 ?d4 ?_)
      case d2 => simp only [List.length_cons]; unfold maxLen; omega
      case d3 => simp only [List.length_cons]; omega
      case d4 => have := HA2.out.bel.size; simp; omega
      intro v3 x3 hown3 hg3 _
      have A3 : AS w x3 v3 xs (Pl.quote s.data.toList) := HA2.out.step ((Below.refl _ _).alloc HA2.out.bel.size _) (by have := HA2.out.bel.size; simp; omega) hown3 hg3 (by simp [Pl.quote]; omega) (by simp [Pl.quote, Lib.byteCells])
      clear hown3 hg3
      have HA3 := hid A3
      clear A3
      go_wp2
      go_ret
      exact ⟨_, rfl, HA3.out⟩

set_option maxHeartbeats 400000 in
theorem zzapp_any (ao : Option Addr) (xs : List Value) (n : Nat) (s : ByteArray) (w : World) (hn : xs.length = n) (hF : Full w ao xs) (hb : xs.length + 6 * s.size + 16 ≤ 35184372088832) :
    Calls Try.prog 9 #[.slice ao n n, .string s] w fun e w' => ∃ v, e = .returned v ∧ AS w w' v xs (Pl.quote s.data.toList) := by
  have H := hid (app_any ao xs n s w hn hF hb)
  clear hF
  go_enter Try.func9, Try.ntmps9
  go_wp2_with fail
  refine H.out.mono ?_
  rintro e w' ⟨v, rfl, hA⟩
  have HA := hid hA
  clear hA
  go_wp2
  go_ret
  exact ⟨_, rfl, HA.out⟩

/-- The row written out. -/
theorem AS.row {w x : World} {v : Value} {l : List UInt8} (h : AS w x v [] l) (h0 : l ≠ []) :
    ∃ g cap cur, v = .slice (some ⟨g, 0, none⟩) l.length cap ∧ w.heap.size ≤ g ∧ x.heap[g]? = some (.cells cur 5 (0, 0)) ∧ l.length ≤ cap ∧ cap ≤ maxLen ∧ cur.toList.take l.length = Lib.byteCells l := by
  have ho := h.own
  rcases ho.2 with ⟨_, h2⟩ | ⟨g, cap, cur, h3, h4, h5, h6, h7, h8, h9⟩
  · simp at h2; exact absurd h2 h0
  · exact ⟨g, cap, cur, by simpa using h3, h4, h5, by simpa using h6, h7, by simpa using h9⟩

/-- A nil slice handed in. -/
theorem zzapp_nil (s : ByteArray) (w : World) (hb : s.size ≤ 1048576) :
    Calls Try.prog 9 #[.slice none 0 0, .string s] w fun e w' => ∃ g cap cur, e = .returned (.slice (some ⟨g, 0, none⟩) (Pl.quote s.data.toList).length cap) ∧ w.heap.size ≤ g ∧ w'.heap[g]? = some (.cells cur 5 (0, 0)) ∧ (Pl.quote s.data.toList).length ≤ cap ∧ cap ≤ maxLen ∧ cur.toList.take (Pl.quote s.data.toList).length = Lib.byteCells (Pl.quote s.data.toList) ∧ Below w.heap.size w w' := by
  refine (zzapp_any none [] 0 s w rfl ⟨fun _ => rfl, fun b h => (by cases h), fun b h => (by cases h)⟩ (by simp; omega)).mono ?_
  rintro e w' ⟨v, rfl, hA⟩
  obtain ⟨g, cap, cur, rfl, h4, h5, h6, h7, h9⟩ := hA.row (by simp [Pl.quote])
  exact ⟨g, cap, cur, rfl, h4, h5, h6, h7, h9, hA.bel⟩
end Go.Proofs.Qxb6604127a
