/-
  THE WALK OF FnHeaderParsesBack, its main way.
-/
import Derived.Test.Qxb6603960aParseWalk
namespace Go.Proofs.Qxb6603960a
open Go.RowKit

theorem gotv_nine (V : Nat → ByteArray) (j : Nat) (hj : j < 9) : gotv V 9 j = V j := by
  unfold gotv
  by_cases hp : pres V j = true
  · rw [if_pos ⟨hj, hp⟩]
  · rw [if_neg (fun h => hp h.2)]
    have h := ((pres_no V j).1 (by simpa using hp)).1
    rw [← Lib.mk_data (V j), h]

theorem seenv_low (V : Nat → ByteArray) (j : Nat) (hj : j < 9) (h5 : j < 5) : seenv V 9 j = true := by
  simp only [seenv, Bool.and_eq_true, decide_eq_true_eq]
  exact ⟨hj, (pres_iff V j).2 (fun h => by omega)⟩

theorem seenv_empty (V : Nat → ByteArray) (j : Nat) (h5 : ¬ j < 5) (h : (V j).data.toList = []) : seenv V 9 j = false := by
  simp only [seenv, (pres_no V j).2 ⟨h, by omega⟩, Bool.and_false]

theorem seenv_full (V : Nat → ByteArray) (j : Nat) (hj : j < 9) (h : (V j).data.toList ≠ []) : seenv V 9 j = true := by
  simp only [seenv, Bool.and_eq_true, decide_eq_true_eq]
  exact ⟨hj, (pres_iff V j).2 (fun h2 => h h2.1)⟩

theorem frozen_at {w : World} {b : Nat} {cs : Array Value} {T : TypeId} (h : w.heap[b]? = some (.cells cs T (0, 0))) (j : Nat) : w.frozen? ⟨b, j, none⟩ = false := by
  simp [World.frozen?, h]

theorem ps_new (w0 x1 : World) (V : Nat → ByteArray) (T : Array Value) (hT : ∀ j, j < 9 → T[j]? = some (.string (V j))) (b1 : Below w0.heap.size w0 x1) :
    PS w0 (((x1.alloc (.cells T 39)).alloc (.cells #[.string ⟨#[]⟩, .string ⟨#[]⟩, .string ⟨#[]⟩, .string ⟨#[]⟩, .string ⟨#[]⟩, .string ⟨#[]⟩, .string ⟨#[]⟩, .string ⟨#[]⟩, .string ⟨#[]⟩] 39)).alloc (.cells #[.bool false, .bool false, .bool false, .bool false, .bool false, .bool false, .bool false, .bool false, .bool false] 44)) V x1.heap.size (x1.heap.size + 1) (x1.heap.size + 2) 0 := by
  have z := b1.size
  generalize hG : (#[.string ⟨#[]⟩, .string ⟨#[]⟩, .string ⟨#[]⟩, .string ⟨#[]⟩, .string ⟨#[]⟩, .string ⟨#[]⟩, .string ⟨#[]⟩, .string ⟨#[]⟩, .string ⟨#[]⟩] : Array Value) = G
  generalize hS : (#[.bool false, .bool false, .bool false, .bool false, .bool false, .bool false, .bool false, .bool false, .bool false] : Array Value) = S
  have h1 : (((x1.alloc (.cells T 39)).alloc (.cells G 39)).alloc (.cells S 44)).heap[x1.heap.size]? = some (.cells T 39 (0, 0)) := by
    rw [Below.heap_alloc _ _ _ (by simp; omega), Below.heap_alloc _ _ _ (by simp)]; exact heap_alloc_new x1 _
  have h2 : (((x1.alloc (.cells T 39)).alloc (.cells G 39)).alloc (.cells S 44)).heap[x1.heap.size + 1]? = some (.cells G 39 (0, 0)) := by
    rw [Below.heap_alloc _ _ _ (by simp)]
    have := heap_alloc_new (x1.alloc (.cells T 39)) (.cells G 39)
    simpa using this
  have h3 : (((x1.alloc (.cells T 39)).alloc (.cells G 39)).alloc (.cells S 44)).heap[x1.heap.size + 2]? = some (.cells S 44 (0, 0)) := by
    have := heap_alloc_new ((x1.alloc (.cells T 39)).alloc (.cells G 39)) (.cells S 44)
    simpa using this
  refine ⟨?_, ⟨by omega, by omega⟩, ⟨by simp; omega, by simp, by simp⟩, ⟨by omega, by omega, by omega⟩, ?_, ?_, ?_, ?_, ?_⟩
  · exact ((b1.alloc z _).alloc (by simp; omega) _).alloc (by simp; omega) _
  · intro j hj; exact (Lib.cell_of_heap h1 j).trans (hT j hj)
  · intro j hj
    refine (Lib.cell_of_heap h2 j).trans ?_
    rw [← hG]
    have e : gotv V 0 j = ⟨#[]⟩ := by simp [gotv]
    rw [e]
    exact nine (p := fun j => (#[.string ⟨#[]⟩, .string ⟨#[]⟩, .string ⟨#[]⟩, .string ⟨#[]⟩, .string ⟨#[]⟩, .string ⟨#[]⟩, .string ⟨#[]⟩, .string ⟨#[]⟩, .string ⟨#[]⟩] : Array Value)[j]? = some (.string ⟨#[]⟩)) rfl rfl rfl rfl rfl rfl rfl rfl rfl j hj
  · intro j hj
    refine (Lib.cell_of_heap h3 j).trans ?_
    rw [← hS]
    have e : seenv V 0 j = false := by simp [seenv]
    rw [e]
    exact nine (p := fun j => (#[.bool false, .bool false, .bool false, .bool false, .bool false, .bool false, .bool false, .bool false, .bool false] : Array Value)[j]? = some (.bool false)) rfl rfl rfl rfl rfl rfl rfl rfl rfl j hj
  · intro j; exact frozen_at h2 j
  · intro j; exact frozen_at h3 j

theorem valsT (a0 a1 a2 a3 a4 a5 a6 a7 a8 : ByteArray) : ∀ j, j < 9 → (#[.string a0, .string a1, .string a2, .string a3, .string a4, .string a8, .string a5, .string a6, .string a7] : Array Value)[j]? = some (.string (VV a0 a1 a2 a3 a4 a5 a6 a7 a8 j)) :=
  nine rfl rfl rfl rfl rfl rfl rfl rfl rfl

set_option maxHeartbeats 4000000 in
set_option maxRecDepth 100000 in
theorem parse_main (a0 a1 a2 a3 a4 a5 a6 a7 a8 : ByteArray) (w : World) (hb : Calls Try.prog 18 #[.string a0, .string a1, .string a2, .string a3, .string a4, .string a5, .string a6, .string a7, .string a8] w fun e w' => (e = .returned (.bool true) ∨ e = .returned (.bool false)) ∧ w' = w)
    (s0 : a0.size ≤ 65536) (s1 : a1.size ≤ 65536) (s2 : a2.size ≤ 65536) (s3 : a3.size ≤ 65536) (s4 : a4.size ≤ 65536) (s5 : a5.size ≤ 65536) (s6 : a6.size ≤ 65536) (s7 : a7.size ≤ 65536) (s8 : a8.size ≤ 65536)
    (t5 : tok a5.data.toList = true) (t6 : tok a6.data.toList = true) (t7 : tok a7.data.toList = true) :
    Calls Try.prog 6 #[.string a0, .string a1, .string a2, .string a3, .string a4, .string a5, .string a6, .string a7, .string a8] w fun e w' => e = .returned (.bool true) ∧ Below w.heap.size w w' := by
  have HB := hid hb
  have T5 := hid (tok_cases a5 w s5)
  have T6 := hid (tok_cases a6 w s6)
  have T7 := hid (tok_cases a7 w s7)
  rw [t5] at T5
  rw [t6] at T6
  rw [t7] at T7
  obtain ⟨V, hV⟩ : ∃ V, V = VV a0 a1 a2 a3 a4 a5 a6 a7 a8 := ⟨_, rfl⟩
  have HV := hid hV
  have HT : Hid (∀ k, 6 ≤ k → k < 9 → tok (V k).data.toList = true) := by
    refine hid fun k h6 h9 => ?_
    rw [hV]
    rcases (by omega : k = 6 ∨ k = 7 ∨ k = 8) with rfl | rfl | rfl
    · exact t5
    · exact t6
    · exact t7
  obtain ⟨O, hO⟩ : ∃ O : ByteArray, O.data.toList = Pl.header (bytesOf V) := ⟨⟨(Pl.header (bytesOf V)).toArray⟩, rfl⟩
  have HO := hid hO
  have hVs : ∀ k, (V k).size ≤ 65536 := by
    intro k
    rw [hV]
    by_cases hk : k < 9
    · exact nine (p := fun k => (VV a0 a1 a2 a3 a4 a5 a6 a7 a8 k).size ≤ 65536) s0 s1 s2 s3 s4 s8 s5 s6 s7 k hk
    · obtain ⟨j, rfl⟩ : ∃ j, k = j + 9 := ⟨k - 9, by omega⟩
      show (⟨#[]⟩ : ByteArray).size ≤ 65536
      decide
  have hOs : O.size ≤ 1179800 := by
    rw [Lib.size_eq, hO]
    have := Pl.body_len (bytesOf V) 65536 (fun j => by have := hVs j; rw [Lib.size_eq] at this; exact this) 9
    simp only [Pl.header, Pl.digest, List.length_append, List.length_cons, List.length_nil]; omega
  have HVs := hid hVs
  have HC := hid (creds_new w a0 a1 a2 a3 a4 a5 a6 a7 a8 38)
  rw [← hV] at HC
  clear hV hO hVs hb t5 t6 t7
  go_enter Try.func6, Try.ntmps6
  go_wp2_with (go_at_call 18; refine HB.out.mono ?_)
  rintro e w' ⟨rfl | rfl, rfl⟩
  · go_wp2_with fail
    refine T5.out.mono ?_
    rintro e w1 ⟨rfl, rfl⟩
    go_wp2_with fail
    refine T6.out.mono ?_
    rintro e w1 ⟨rfl, rfl⟩
    go_wp2_with fail
    refine T7.out.mono ?_
    rintro e w1 ⟨rfl, rfl⟩
    clear T5 T6 T7
    go_wp2_with fail
    have H0 := header_any w1.heap.size V O _ (by simp) HC.out HVs.out HO.out
    refine H0.mono ?_
    clear H0
    rintro e x1 ⟨rfl, b1⟩
    have hO64 : O.size ≤ 35184372088832 := by omega
    go_wp2_with fail
    have H1 := lit_zero O ⟨#[68, 105, 103, 101, 115, 116, 32]⟩ 7 (Pl.body (bytesOf V) 9) (((x1.alloc (.cells #[.string a0, .string a1, .string a2, .string a3, .string a4, .string a8, .string a5, .string a6, .string a7] 39)).alloc (.cells #[.string ⟨#[]⟩, .string ⟨#[]⟩, .string ⟨#[]⟩, .string ⟨#[]⟩, .string ⟨#[]⟩, .string ⟨#[]⟩, .string ⟨#[]⟩, .string ⟨#[]⟩, .string ⟨#[]⟩] 39)).alloc (.cells #[.bool false, .bool false, .bool false, .bool false, .bool false, .bool false, .bool false, .bool false, .bool false] 44)) (by rw [HO.out]; rfl) hO64 rfl
    refine H1.mono ?_
    clear H1
    rintro e x2 ⟨rfl, b2⟩
    have P0 := hid ((ps_new w1 x1 V _ (by rw [HV.out]; exact valsT a0 a1 a2 a3 a4 a5 a6 a7 a8) (((Below.refl _ w1).alloc (Nat.le_refl _) _).trans (b1.mono (by simp)))).below b2)
    clear b1 b2
    go_wp2
    go_loopw [24] (fun i wr => ∃ k : Nat, k ≤ 9 ∧ i = .int .i64 (start V k) ∧ Hid (k = 9 ∨ pres V k = true) ∧ PS w1 wr V x1.heap.size (x1.heap.size + 1) (x1.heap.size + 2) k) (fun i _ => O.size - (intOf i).toNat)
    case atStart => exact ⟨0, by omega, by rw [start_zero]; rfl, hid (Or.inr (by simp [pres])), P0.out⟩
    case round =>
      obtain ⟨k, hk, rfl, HK, hP⟩ := hrel
      clear P0
      by_cases h9 : k = 9
      · subst h9
        rw [start_end HO.out]
        clear HK hk
        go_wp2
        go_loopw [33] (fun i wx => ∃ j : Nat, j ≤ 9 ∧ i = .int .i64 j ∧ ∃ n, wx = wr.drewN n) (fun i _ => 9 - (intOf i).toNat)
        case atStart => exact ⟨0, by omega, rfl, 0, rfl⟩
        case round =>
          obtain ⟨j, hj, rfl, n, rfl⟩ := hrel
          by_cases hj9 : j < 9
          · have cW := hP.want j hj9
            have cG := hP.got j hj9
            have cS := hP.seen j hj9
            rw [gotv_nine V j hj9] at cG
            have hj0 : (0 : Int) ≤ (j : Int) := by omega
            have hj9' : (j : Int) < 9 := by omega
            by_cases hj5 : j < 5
            · have hd5 : decide ((j : Int) < 5) = true := decide_eq_true (by omega)
              rw [seenv_low V j hj9 hj5] at cS
              go_wp2
              go_quiet (fail)
              go_wp2
              go_quiet (fail)
              go_wp2
              go_roundw
              case rel => exact ⟨j + 1, by omega, by go_num, _, rfl⟩
              case measure => simp [intOf]; omega
            · have hd5 : decide ((j : Int) < 5) = false := decide_eq_false (by omega)
              by_cases hv : (V j).toList = []
              · rw [seenv_empty V j hj5 (by rw [← Lib.toList_data]; exact hv)] at cS
                go_wp2
                go_quiet (fail)
                go_wp2
                go_quiet (fail)
                go_wp2
                go_roundw
                case rel => exact ⟨j + 1, by omega, by go_num, _, rfl⟩
                case measure => simp [intOf]; omega
              · rw [seenv_full V j hj9 (by rw [← Lib.toList_data]; exact hv)] at cS
                have hv3 : (V j).toList.isEmpty = false := by simpa using hv
                have hv2 : ((V j).toList == []) = false := by simpa using hv
                go_wp2
                go_quiet (fail)
                go_wp2
                go_quiet (fail)
                go_wp2
                go_roundw
                case rel => exact ⟨j + 1, by omega, by go_num, _, rfl⟩
                case measure => simp [intOf]; omega
          · go_wp2
            go_ret
            exact ⟨rfl, below_drewN hP.bel n⟩
      · have hp : pres V k = true := HK.out.resolve_left h9
        have hlt : k < 9 := by omega
        clear HK h9 hk
        obtain ⟨k', hk1, hk2, hk3, hk4⟩ := next_from V (9 - (k + 1)) (k + 1) (by omega)
        have HB := hid (behind HO.out k k' hk1 hk2 hk3 hk4)
        have Hk3 := hid hk3
        clear hk3 hk4
        obtain ⟨p1, i1, p2, p3, post2, post3, q0, q1, q2, q3, q4, q5, q6, q7, q8, q9, q10, q11⟩ := parse_steps HO.out k hlt hp
        rw [q0]
        have Q1 := hid q1
        have Q4 := hid q4
        have Q6 := hid q6
        have Q9 := hid q9
        have Q10 := hid q10
        have hi1 : p1 ≤ i1 := by omega
        have hi1s : i1 < O.size := (byte_at q4).1
        have hp1s : p1 < O.size := by omega
        have hrun := hid (tok_run q1 q2 (name_tok k hlt))
        have hstop : Hid (tch O[i1].toNat = false) := hid (by rw [(byte_at q4).2 hi1s]; decide)
        have hslice : Hid (O.extract p1 i1 = nameB k) := hid (slice_at (nameB k) q1 q3 rfl)
        have Q3 := hid q3
        have Q5 := hid q5
        have Q8 := hid q8
        have hp2s : i1 < p2 := by omega
        have hp23l : p2 ≤ p3 := by omega
        clear q0 q1 q3 q4 q5 q6 q8 q9 q10
        go_wp2
        go_loop [24] (fun i => ∃ m : Nat, p1 ≤ m ∧ m ≤ i1 ∧ i = .int .i64 m) (fun i => O.size - (intOf i).toNat)
        case atStart => exact ⟨p1, by omega, by omega, rfl⟩
        case round =>
          obtain ⟨m, hm1, hm2, rfl⟩ := hrel
          have hms : m < O.size := by omega
          have hmb : O[m].toNat < 256 := O[m].toNat_lt
          by_cases hmlt : m < i1
          · have ht : Hid (tch O[m].toNat = true) := hid (hrun.out m hm1 (by have := Q3.out; omega) hms)
            go_wp2_with fail
            have H := tch_any O[m].toNat wr hmb
            rw [ht.out] at H
            refine H.mono ?_
            rintro e y ⟨rfl, rfl⟩
            clear H
            go_wp2
            go_round
            case rel => exact ⟨m + 1, by omega, by omega, by go_num⟩
            case measure => simp [intOf]; omega
          · obtain rfl : m = i1 := by omega
            clear hmlt hm1 hm2
            go_wp2_with fail
            have H := tch_any O[m].toNat wr hmb
            rw [hstop.out] at H
            refine H.mono ?_
            rintro e y ⟨rfl, rfl⟩
            clear H
            go_wp2_with fail
            have H := index_any k (O.extract p1 m) y hlt hslice.out
            refine H.mono ?_
            rintro e y1 ⟨rfl, rfl⟩
            clear H
            have cs : y1.cell? ⟨x1.heap.size + 2, k, none⟩ = some (.bool false) := by rw [hP.seen k hlt]; simp [seenv]
            have hk0 : (0 : Int) ≤ (k : Int) := by omega
            have hk9 : (k : Int) < 9 := by omega
            go_wp2_with fail
            have H := lit_at O ⟨#[61]⟩ m p2 post2 y1 Q4.out (by omega) hO64 Q5.out
            refine H.mono ?_
            rintro e y2 ⟨rfl, c2⟩
            clear H
            have hP2 := hP.below c2
            clear hP c2 cs
            by_cases h6 : k < 6
            · have hval : Pl.val k (V k).data.toList = Pl.quote (V k).data.toList := by simp only [Pl.val]; rw [if_pos h6]
              rw [hval] at Q6 Q8
              have hbt := byte_at (O := O) (p := p2) (c := 34) (post := Pl.esc (V k).data.toList ++ [34] ++ post3) (by rw [Q6.out]; simp [Pl.quote])
              have hp2lt : p2 < O.size := hbt.1
              have hq : ((O[p2].toNat : Int) == 34) = true := by rw [hbt.2 hp2lt]; rfl
              clear hval hbt
              go_wp2_with fail
              have H := dec_at O (V k) p2 p3 post3 y2 Q6.out hO64 Q8.out
              refine H.mono ?_
              rintro e y3 ⟨rfl, c3⟩
              clear H
              have hP3 := hP2.below c3
              clear hP2 c3
              have g1 : y3.cell? ⟨x1.heap.size + 2, k, none⟩ = some (.bool false) := by rw [hP3.seen k hlt]; simp [seenv]
              have f1 := hP3.fs k
              have f2 := hP3.fg k
              have g2 : ∀ v, (y3.setCell ⟨x1.heap.size + 2, k, none⟩ v).cell? ⟨x1.heap.size + 1, k, none⟩ = some (.string (gotv V k k)) := fun v => (sc_ne _ _ _ _ _ _ (Or.inl (by omega))).trans (hP3.got k hlt)
              have PS1 := hid (hP3.store hp)
              rcases HB.out with ⟨e9, e10⟩ | ⟨h9, hp', post4, d4, st4, lt4⟩
              · have hend : p3 = O.size := by rw [Q9.out]; exact e10
                have hnl : ¬ p3 < O.size := by omega
                have Hend := hid hend
                clear hend e10
                go_wp2
                go_roundw
                case rel => exact ⟨9, by omega, by rw [start_end HO.out, Hend.out], hid (Or.inl rfl), PS1.out.skip (by omega) (fun j h1 h2 => Hk3.out j h1 (by omega))⟩
                case measure => simp [intOf]; omega
              · have D4 := hid d4
                obtain ⟨s4, hs4⟩ : ∃ s4, s4 = start V k' := ⟨_, rfl⟩
                rw [← hs4] at st4 lt4
                rw [← Q9.out] at D4 st4
                have S4 := hid hs4
                have ST4 := hid st4
                have hl : p3 < O.size := by omega
                have hl4 : p3 < s4 := by omega
                clear d4 hs4 st4
                go_wp2_with fail
                have H := lit_at O ⟨#[44, 32]⟩ p3 s4 post4 ((y3.setCell ⟨x1.heap.size + 2, k, none⟩ (.bool true)).setCell ⟨x1.heap.size + 1, k, none⟩ (.string (V k))) D4.out (by omega) hO64 ST4.out
                refine H.mono ?_
                rintro e z4 ⟨rfl, c4⟩
                clear H
                go_wp2
                go_roundw
                case rel => exact ⟨k', by omega, by rw [S4.out], hid (Or.inr hp'), (PS1.out.skip hk1 (fun j h1 h2 => Hk3.out j h1 h2)).below c4⟩
                case measure => simp [intOf]; omega
            · have hval : Pl.val k (V k).data.toList = (V k).data.toList := by simp only [Pl.val]; rw [if_neg h6]
              rw [hval] at Q6 Q8
              have htk := HT.out k (by omega) hlt
              have hne : (V k).data.toList ≠ [] := fun h => (pres_iff V k).1 hp ⟨h, by omega⟩
              have hvlen : 0 < (V k).data.toList.length := List.length_pos_iff.2 hne
              have hp23 : p2 < p3 := by have := Q8.out; omega
              have hp2lt : p2 < O.size := by omega
              have hrun2 := hid (tok_run Q6.out (by omega) htk)
              have hq : ((O[p2].toNat : Int) == 34) = false := by
                have h1 := hrun2.out p2 (by omega) (by omega) hp2lt
                rw [beq_eq_false_iff_ne]
                intro e
                have e2 : O[p2].toNat = 34 := by omega
                rw [e2] at h1
                exact absurd h1 (by decide)
              have hslice2 : Hid (O.extract p2 p3 = V k) := hid (slice_at (V k) Q6.out Q8.out rfl)
              have hstop2 : Hid (∀ hj : p3 < O.size, tch O[p3].toNat = false) := by
                refine hid fun hj => ?_
                rcases HB.out with ⟨e9, e10⟩ | ⟨h9, hp', post4, d4, st4, lt4⟩
                · rw [← Q9.out] at e10; omega
                · rw [← Q9.out] at d4
                  rw [(byte_at (c := 44) (post := 32 :: post4) (by simpa using d4)).2 hj]; decide
              clear hval htk hne hvlen
              go_wp2
              go_loop [24] (fun i => ∃ m : Nat, p2 ≤ m ∧ m ≤ p3 ∧ i = .int .i64 m) (fun i => O.size - (intOf i).toNat)
              case atStart => exact ⟨p2, by omega, by omega, rfl⟩
              case round =>
                obtain ⟨n, hn1, hn2, rfl⟩ := hrel
                by_cases hnlt : n < p3
                · have hns : n < O.size := by omega
                  have hnb : O[n].toNat < 256 := O[n].toNat_lt
                  have ht : Hid (tch O[n].toNat = true) := hid (hrun2.out n hn1 (by have := Q8.out; omega) hns)
                  go_wp2_with fail
                  have H := tch_any O[n].toNat y2 hnb
                  rw [ht.out] at H
                  refine H.mono ?_
                  rintro e y3 ⟨rfl, rfl⟩
                  clear H
                  go_wp2
                  go_round
                  case rel => exact ⟨n + 1, by omega, by omega, by go_num⟩
                  case measure => simp [intOf]; omega
                · obtain rfl : n = p3 := by omega
                  clear hnlt hn1 hn2
                  rcases HB.out with ⟨e9, e10⟩ | ⟨h9, hp', post4, d4, st4, lt4⟩
                  · have hend : n = O.size := by rw [Q9.out]; exact e10
                    have hnl : ¬ n < O.size := by omega
                    have Hend := hid hend
                    clear hend e10
                    have g1 : y2.cell? ⟨x1.heap.size + 2, k, none⟩ = some (.bool false) := by rw [hP2.seen k hlt]; simp [seenv]
                    have f1 := hP2.fs k
                    have f2 := hP2.fg k
                    have g2 : ∀ v, (y2.setCell ⟨x1.heap.size + 2, k, none⟩ v).cell? ⟨x1.heap.size + 1, k, none⟩ = some (.string (gotv V k k)) := fun v => (sc_ne _ _ _ _ _ _ (Or.inl (by omega))).trans (hP2.got k hlt)
                    have PS1 := hid (hP2.store hp)
                    have hwp : ∀ u : ByteArray, u = V k → (y2.setCell ⟨x1.heap.size + 2, k, none⟩ (.bool true)).setCell ⟨x1.heap.size + 1, k, none⟩ (.string u) = (y2.setCell ⟨x1.heap.size + 2, k, none⟩ (.bool true)).setCell ⟨x1.heap.size + 1, k, none⟩ (.string (V k)) := fun u hu => by rw [hu]
                    have Hwp := hid hwp
                    clear hwp
                    go_wp2
                    go_roundw
                    case rel => exact ⟨9, by omega, by rw [start_end HO.out, Hend.out], hid (Or.inl rfl), by rw [Hwp.out _ hslice2.out]; exact PS1.out.skip (by omega) (fun j h1 h2 => Hk3.out j h1 (by omega))⟩
                    case measure => simp [intOf]; omega
                  · have D4 := hid d4
                    obtain ⟨s4, hs4⟩ : ∃ s4, s4 = start V k' := ⟨_, rfl⟩
                    rw [← hs4] at st4 lt4
                    rw [← Q9.out] at D4 st4
                    have S4 := hid hs4
                    have ST4 := hid st4
                    have hl : n < O.size := by omega
                    have hl4 : n < s4 := by omega
                    clear d4 hs4 st4
                    have hnb : O[n].toNat < 256 := O[n].toNat_lt
                    go_wp2_with fail
                    have H := tch_any O[n].toNat y2 hnb
                    rw [hstop2.out hl] at H
                    refine H.mono ?_
                    rintro e y3 ⟨rfl, rfl⟩
                    clear H
                    have g1 : y3.cell? ⟨x1.heap.size + 2, k, none⟩ = some (.bool false) := by rw [hP2.seen k hlt]; simp [seenv]
                    have f1 := hP2.fs k
                    have f2 := hP2.fg k
                    have g2 : ∀ v, (y3.setCell ⟨x1.heap.size + 2, k, none⟩ v).cell? ⟨x1.heap.size + 1, k, none⟩ = some (.string (gotv V k k)) := fun v => (sc_ne _ _ _ _ _ _ (Or.inl (by omega))).trans (hP2.got k hlt)
                    have PS1 := hid (hP2.store hp)
                    go_wp2_with fail
                    rw [hslice2.out]
                    have H := lit_at O ⟨#[44, 32]⟩ n s4 post4 ((y3.setCell ⟨x1.heap.size + 2, k, none⟩ (.bool true)).setCell ⟨x1.heap.size + 1, k, none⟩ (.string (V k))) D4.out (by omega) hO64 ST4.out
                    refine H.mono ?_
                    rintro e z4 ⟨rfl, c4⟩
                    clear H
                    go_wp2
                    go_roundw
                    case rel => exact ⟨k', by omega, by rw [S4.out], hid (Or.inr hp'), (PS1.out.skip hk1 (fun j h1 h2 => Hk3.out j h1 h2)).below c4⟩
                    case measure => simp [intOf]; omega
  · go_wp2
    go_ret
    exact ⟨rfl, Below.refl _ _⟩

theorem parse_walk (a0 a1 a2 a3 a4 a5 a6 a7 a8 : ByteArray) (w0 : a0.size ≤ maxLen) (w1 : a1.size ≤ maxLen) (w2 : a2.size ≤ maxLen) (w3 : a3.size ≤ maxLen) (w4 : a4.size ≤ maxLen) (w5 : a5.size ≤ maxLen) (w6 : a6.size ≤ maxLen) (w7 : a7.size ≤ maxLen) (w8 : a8.size ≤ maxLen) (w : World) :
    Calls Try.prog 6 #[.string a0, .string a1, .string a2, .string a3, .string a4, .string a5, .string a6, .string a7, .string a8] w fun e w' => e = .returned (.bool true) ∧ Below w.heap.size w w' := by
  have hb := bytes18 a0 a1 a2 a3 a4 a5 a6 a7 a8 w w0 w1 w2 w3 w4 w5 w6 w7 w8
  by_cases hs : a0.size ≤ 65536 ∧ a1.size ≤ 65536 ∧ a2.size ≤ 65536 ∧ a3.size ≤ 65536 ∧ a4.size ≤ 65536 ∧ a5.size ≤ 65536 ∧ a6.size ≤ 65536 ∧ a7.size ≤ 65536 ∧ a8.size ≤ 65536
  · obtain ⟨s0, s1, s2, s3, s4, s5, s6, s7, s8⟩ := hs
    by_cases ht : tok a5.data.toList = true ∧ tok a6.data.toList = true ∧ tok a7.data.toList = true
    · exact parse_main a0 a1 a2 a3 a4 a5 a6 a7 a8 w hb s0 s1 s2 s3 s4 s5 s6 s7 s8 ht.1 ht.2.1 ht.2.2
    · exact parse_notok a0 a1 a2 a3 a4 a5 a6 a7 a8 w hb s0 s1 s2 s3 s4 s5 s6 s7 s8 ht
  · exact parse_long a0 a1 a2 a3 a4 a5 a6 a7 a8 w0 w1 w2 w3 w4 w5 w6 w7 w8 w hs
end Go.Proofs.Qxb6603960a
