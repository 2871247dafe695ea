/-
  THE WALK OF cloneReqs.
-/
import Derived.Test.Qxb6604127aZZWalk
namespace Go.Proofs.Qxb6604127a
open Go.RowKit

def zReq : Value := .agg #[.int .u64 0, .int .i64 0, .int .i64 0, .bool false, .bool false, .bool false, .int .i64 0, .bool false, .int .i64 0, .int .i64 0, .int .i64 0, .bool false, .bool false]
theorem Try.info39 : (Try.prog.info? 39).map (fun i => (i.zero, i.size, i.bytes)) = some (some zReq, 13, 80) := by kernel_rfl

theorem S1.step' {w x : World} {sb n k : Nat} {E : Nat → List Value} (h : S1 w x sb n k E) (hG : Good n E) (hk : k < n) : S1 w (x.setCells sb (k * 13) (E k)) sb n (k + 1) E := by
  have hl := hG.len k hk
  have ht : x.there sb (k * 13) (E k).length := there_sub h.th (by omega) (by rw [hl]; omega)
  refine ⟨fun j hj => ?_, World.there_setCells h.th _ _ _, Nat.lt_of_lt_of_le h.lt (below_setCells (B := 0) (Nat.zero_le _) _ _ _ (Below.refl _ x)).size, below_setCells h.hs _ _ _ h.bel, h.hs⟩
  by_cases e : j = k
  · subst e; exact World.rangeAt_setCells_same _ _ _ _ ht
  · have hj' : j < k := by omega
    exact World.rangeAt_setCells_apart (h.done j hj') _ _ _ (.inr (.inl (by rw [hG.len j (by omega)]; omega)))

set_option maxHeartbeats 1000000 in
theorem cloner_nil (w : World) : Calls Try.prog 15 #[.slice none 0 0] w fun e w' => e = .returned (.slice none 0 0) ∧ w' = w := by
  have hnil := Lib.run_eql_slice_nil (P := Try.prog) w 30 39 none 0 0 0 0 Try.underlying30
  go_enter Try.func15, Try.ntmps15
  go_wp2
  go_ret
  exact ⟨rfl, rfl⟩

set_option maxHeartbeats 4000000 in
set_option maxRecDepth 100000 in
theorem cloner_any (xa : Addr) (g o n cap : Nat) (I : Nat → Int) (R : Nat → List Value) (w : World) (hl : n ≤ 10000) (hx : 0 < n → xa = ⟨g, o, none⟩) (hc : ∀ k, k < n → w.rangeAt g (o + k * 13) (req I R k)) (hg : 0 < n → g < w.heap.size) (hGR : GoodR n R) :
    Calls Try.prog 15 #[.slice (some xa) n cap] w fun e w' => e = .returned (.slice (some ⟨w.heap.size, 0, none⟩) n n) ∧ S1 w w' w.heap.size n n (req I R) := by
  have hnil := Lib.run_eql_slice_nil (P := Try.prog) w 30 39 (some xa) n cap 0 0 Try.underlying30
  obtain ⟨x1, hmk, hth, hlt, hbl⟩ := make_k w 30 39 13 80 zReq Try.info39 Try.underlying30 n (by omega) (by omega)
  have C0 : Hid (S1 w x1 w.heap.size n 0 (req I R)) := ⟨fun j hj => by omega, hth, hlt, hbl, by omega⟩
  have HC := hid hc
  have HG := hid hg
  have HX := hid hx
  have HGR := hid hGR
  have HGE : Hid (Good n (req I R)) := req_good hGR
  clear hc hg hx hGR hth hlt hbl
  go_enter Try.func15, Try.ntmps15
  go_wp2
  go_loopw [4] (fun k x => ∃ j : Nat, j ≤ n ∧ k = .int .i64 j ∧ Hid (S1 w x w.heap.size n j (req I R))) (fun k _ => n - (intOf k).toNat)
  case atStart => exact ⟨0, Nat.zero_le _, rfl, C0⟩
  case round =>
    obtain ⟨j, hj, rfl, H⟩ := hrel
    clear C0 hmk hnil
    by_cases hlt : j < n
    · have hxx := HX.out (by omega)
      subst hxx
      have hglt := HG.out (by omega)
      have e2 := range_below (HC.out j hlt) H.out.bel hglt
      have HN := H.out.step' HGE.out hlt
      obtain ⟨z0, z1, z5, z7, z8, z9, b2, b3, b4, b6, b10, b11, hRj⟩ := HGR.out j hlt
      have hq : req I R j = [.int .u64 (I j), .int .i64 z0, .int .i64 z1, .bool b2, .bool b3, .bool b4, .int .i64 z5, .bool b6, .int .i64 z7, .int .i64 z8, .int .i64 z9, .bool b10, .bool b11] := by unfold req; rw [hRj]
      rw [hq] at e2 HN
      simp only [World.setCells, Nat.add_assoc, Nat.reduceAdd] at HN
      obtain ⟨c, c0, c1, c2, c3, c4, c5, c6, c7, c8, c9, c10, c11⟩ := range13 e2
      obtain ⟨⟨⟨u0, d0⟩, ⟨u1, d1⟩, ⟨u2, d2⟩, ⟨u3, d3⟩, ⟨u4, d4⟩, ⟨u5, d5⟩, ⟨u6, d6⟩, ⟨u7, d7⟩, ⟨u8, d8⟩, ⟨u9, d9⟩, ⟨u10, d10⟩, ⟨u11, d11⟩, ⟨u12, d12⟩⟩, f0, f1, f2, f3, f4, f5, f6, f7, f8, f9, f10, f11, f12⟩ := there13 (o := j * 13) H.out.th (by omega)
      have hne : g ≠ w.heap.size := by omega
      have HN' := hid HN
      have b0 : (0 : Int) ≤ (j : Int) := by omega
      have b1 : (j : Int) < (n : Int) := by omega
      clear e2 HN hRj hq H
      go_wp2_with fail
      go_roundw
      case rel => exact ⟨j + 1, by omega, by go_num, HN'⟩
      case measure => simp [intOf]; omega
    · have hjl : j = n := by omega
      subst hjl
      clear hj hlt
      go_wp2
      go_ret
      exact ⟨rfl, H.out⟩
/-- What the walk is told of a slice of Req that came in. -/
def IsReqs (w : World) (a : Option Addr) (len cap : Nat) (I : Nat → Int) (R : Nat → List Value) : Prop :=
  (a = none ∧ len = 0 ∧ cap = 0) ∨
  ∃ x, a = some x ∧ len ≤ cap ∧ cap ≤ maxLen ∧ GoodR len R ∧ ∀ k, k < len → ∀ t v, (req I R k)[t]? = some v → w.cell? (x.add (k * 13 + t)) = some v

theorem addr_form' {w : World} {x : Addr} {u : Value} (h : w.cell? (x.add 0) = some u) : ∃ b o, x = ⟨b, o, none⟩ ∧ b < w.heap.size := by
  obtain ⟨b, o, sp⟩ := x
  cases sp with
  | none =>
    refine ⟨b, o, rfl, ?_⟩
    have := World.block_lt_of_cell? w _ h
    have e : ((⟨b, o, none⟩ : Addr).add 0).block = b := by unfold Addr.add; split <;> simp_all
    rwa [e] at this
  | some q =>
    exfalso
    unfold World.cell? at h
    split at h
    · have e : ((⟨b, o, some q⟩ : Addr).add 0).spot.isSome = true := by unfold Addr.add; split <;> simp_all
      simp [e] at h
    · cases h

theorem cloner_uni (a0 : Option Addr) (n cap0 : Nat) (I : Nat → Int) (R : Nat → List Value) (w : World) (h : IsReqs w a0 n cap0 I R) (hl : n ≤ 10000) :
    Calls Try.prog 15 #[.slice a0 n cap0] w fun e w' => ∃ bo b, e = .returned (.slice bo n n) ∧ (0 < n → bo = some ⟨b, 0, none⟩) ∧ (∀ k, k < n → w'.rangeAt b (k * 13) (req I R k)) ∧ (0 < n → b < w'.heap.size) ∧ GoodR n R ∧ Below w.heap.size w w' := by
  rcases h with ⟨rfl, rfl, rfl⟩ | ⟨x, rfl, hc, hm, hG, hcell⟩
  · refine (cloner_nil w).mono ?_
    rintro e w' ⟨rfl, rfl⟩
    exact ⟨none, 0, rfl, fun h => by omega, fun k hk => by omega, fun h => by omega, fun k hk => by omega, Below.refl _ _⟩
  · rcases Nat.eq_zero_or_pos n with rfl | hp
    · refine (cloner_any x 0 0 0 cap0 I R w hl (fun h => by omega) (fun k hk => by omega) (fun h => by omega) hG).mono ?_
      rintro e w' ⟨rfl, hS⟩
      exact ⟨_, w.heap.size, rfl, fun h => by omega, fun k hk => by omega, fun h => by omega, hG, hS.bel⟩
    · obtain ⟨b, o, rfl, hb⟩ := addr_form' (hcell 0 hp 0 _ rfl)
      refine (cloner_any ⟨b, o, none⟩ b o n cap0 I R w hl (fun h => rfl) (fun k hk t v hv => ?_) (fun h => hb) hG).mono ?_
      · have := hcell k hk t v hv
        rw [Addr.add_mid] at this
        rwa [Nat.add_assoc]
      · rintro e w' ⟨rfl, hS⟩
        exact ⟨_, w.heap.size, rfl, fun h => rfl, hS.done, fun _ => hS.lt, hG, hS.bel⟩

def B14 (n : Nat) (w : World) (e : Ending) (w' : World) : Prop := ∃ b, e = .returned (.bool b) ∧ Below w.heap.size w w' ∧ (n ≤ 4096 → b = true)

set_option maxHeartbeats 1000000 in
theorem bytes14 (a0 : Option Addr) (n cap0 : Nat) (z x : Int) (V : List Value) (w : World) (hV : V.length = 12) (hn : n ≤ maxLen) :
    Calls Try.prog 14 #[.slice a0 n cap0, .int .i64 z, .int .u64 x, .agg V.toArray] w fun e w' => B14 n w e w' := by
  obtain ⟨r0, r1, r2, r3, r4, r5, r6, r7, r8, r9, r10, r11, rfl⟩ := list12 hV
  unfold maxLen at hn
  by_cases h : n ≤ 1048576
  · have h1 : decide ((1048576 : Int) < (n : Int)) = false := by simp; omega
    have h2 : ¬ ((1048576 : Int) < (n : Int)) := by omega
    go_enter Try.func14, Try.ntmps14
    go_wp2_with fail
    go_ret
    exact ⟨true, rfl, (Below.refl _ _).alloc (Nat.le_refl _) _, fun _ => rfl⟩
  · have h1 : decide ((1048576 : Int) < (n : Int)) = true := by simp; omega
    have h2 : ((1048576 : Int) < (n : Int)) := by omega
    go_enter Try.func14, Try.ntmps14
    go_wp2_with fail
    go_ret
    exact ⟨false, rfl, (Below.refl _ _).alloc (Nat.le_refl _) _, fun _ => by omega⟩
end Go.Proofs.Qxb6604127a
