/-
  FnSkipSpaceClosedForm (5): the walk.
-/
import Derived.Test.Qxb6617838aSkipWalks
import Derived.OpenShut
namespace Go.Proofs.Qxb6617838a
open Go.RowKit
open Skip

set_option maxHeartbeats 400000 in
theorem bound13 (s : ByteArray) (a b c : Int) (w : World) (hs : s.size ≤ maxLen) :
    Calls Try.prog 13 #[.string s, .int .i64 a, .int .i64 b, .int .i64 c] w fun e w' => e = .returned (.bool (decide (s.size ≤ 1048576))) ∧ w' = w := by
  unfold maxLen at hs
  by_cases h1 : s.size ≤ 1048576
  · go_enter Try.func13, Try.ntmps13
    go_wp2
    go_ret
    exact ⟨ret_bool (by simp [h1]), rfl⟩
  · go_enter Try.func13, Try.ntmps13
    go_wp2
    go_ret
    exact ⟨ret_bool (by simp [h1]), rfl⟩

/-- The loop's state behind 'i' of the bytes passed. -/
structure Told (s : ByteArray) (off i nl : Nat) (la : Int) : Prop where
  nl : nl = nlTo s off i
  la : la = laTo s off i

theorem Told.start (s : ByteArray) (off : Nat) : Told s off 0 0 (-1) := ⟨rfl, rfl⟩
theorem Told.yes {s : ByteArray} {off i nl : Nat} {la : Int} (h : Told s off i nl la) (hb : bt s (off + i) = 10) : Told s off (i + 1) (nl + 1) ((off + i : Nat) : Int) := by
  refine ⟨?_, ?_⟩
  · unfold nlTo; rw [if_pos hb, h.nl]
  · unfold laTo; rw [if_pos hb]
theorem Told.no {s : ByteArray} {off i nl : Nat} {la : Int} (h : Told s off i nl la) (hb : ¬ bt s (off + i) = 10) : Told s off (i + 1) nl la := by
  refine ⟨?_, ?_⟩
  · unfold nlTo; rw [if_neg hb, h.nl]
  · unfold laTo; rw [if_neg hb, h.la]

set_option maxRecDepth 20000 in
set_option maxHeartbeats 1000000 in
theorem main5 (s : ByteArray) (off : Nat) (l c : Int) (w : World) (hs : s.size ≤ 1048576) (hoff : off ≤ 9223372036854775807) (hl : Fits l) (hc : Fits c) :
    Calls Try.prog 5 #[.string s, .int .i64 (off : Int), .int .i64 l, .int .i64 c] w fun e w' => e = .returned (.bool true) ∧ Below w.heap.size w w' := by
  obtain ⟨k, hk⟩ := skips_exists s (s.size - off) off (Nat.le_refl _)
  have HK := Box.mk hk
  have h13 := Box.mk (bound13 s off l c w (by unfold maxLen; omega))
  rw [decide_eq_true hs] at h13
  have h14 := Box.mk (skip14 s off k l c w (by omega) hoff hk)
  obtain ⟨o, ho⟩ : ∃ o, o = off + k := ⟨_, rfl⟩
  obtain ⟨l1, hl1⟩ : ∃ l1, l1 = lnTo s off l k := ⟨_, rfl⟩
  obtain ⟨c1, hc1⟩ : ∃ c1, c1 = clTo s off c k := ⟨_, rfl⟩
  rw [← ho, ← hl1, ← hc1] at h14
  have HO := Box.mk ho
  have HL := Box.mk hl1
  have HC := Box.mk hc1
  have FL := Box.mk hl
  have FC := Box.mk hc
  have hle := hk.le
  by_cases hso : s.size ≤ off
  · have hk0 := hk.zero_of hso
    subst hk0
    have e1 : ((o : Int) == (off : Int)) = true := by simp; omega
    have e2 : (l1 == l) = true := by rw [hl1]; simp [lnTo]
    have e3 : (c1 == c) = true := by rw [hc1]; simp [clTo]
    clear ho hl1 hc1 hl hc hk hle
    go_enter Try.func5, Try.ntmps5
    go_wp2_with fail
    refine h13.out.mono ?_
    rintro e w' ⟨rfl, rfl⟩
    go_wp2_with fail
    refine h14.out.mono ?_
    rintro e w1 ⟨rfl, hb⟩
    have HB := Box.mk hb
    clear hb h13 h14
    go_wp2
    go_ret
    exact ⟨rfl, HB.out⟩
  · have hos : o ≤ s.size := by omega
    have hoo : off ≤ o := by omega
    clear ho hl1 hc1 hl hc hk hle
    have h15 : Box (∀ (h : o < s.size) (w : World), Calls Try.prog 15 #[.int .u8 (s[o].toNat : Int)] w fun e w' => e = .returned (.bool false) ∧ w' = w) := ⟨fun h w => by
      have h1 := blank15 s[o].toNat w
      have h2 := HK.out.stop (by rw [← HO.out]; exact h)
      rw [← HO.out, bt_lt h] at h2
      rw [h2] at h1
      exact h1⟩
    by_cases hlt : o < s.size
    · go_enter Try.func5, Try.ntmps5
      go_wp2_with fail
      refine h13.out.mono ?_
      rintro e w' ⟨rfl, rfl⟩
      go_wp2_with fail
      refine h14.out.mono ?_
      rintro e w1 ⟨rfl, hb⟩
      have HB := Box.mk hb
      clear hb h13 h14
      go_wp2_with fail
      refine (h15.out hlt _).mono ?_
      rintro e w2 ⟨rfl, rfl⟩
      go_wp2
      go_loop [12, 13, 14] (fun n a j => ∃ (jn nl : Nat) (la : Int), off ≤ jn ∧ jn ≤ o ∧ j = .int .i64 jn ∧ n = .int .i64 nl ∧ a = .int .i64 la ∧ nl ≤ jn ∧ -1 ≤ la ∧ la < jn ∧ Box (Told s off (jn - off) nl la)) (fun _ _ j => o - (intOf j).toNat)
      case atStart => exact ⟨off, 0, -1, Nat.le_refl _, hoo, rfl, rfl, rfl, Nat.zero_le _, by omega, by omega, ⟨by rw [Nat.sub_self]; exact Told.start s off⟩⟩
      case round =>
        obtain ⟨jn, nl, la, hj1, hj2, rfl, rfl, rfl, hn, hla1, hla2, HT⟩ := hrel
        by_cases hjo : jn < o
        · have hjs : jn < s.size := by omega
          have hjs2 : (jn : Int) < (s.size : Int) := by omega
          have hp := HK.out.pass (jn - off) (by have := HO.out; omega)
          rw [show off + (jn - off) = jn by omega] at hp
          have hw := hp.2
          rw [bt_lt hjs] at hw
          have hb15 := Box.mk (blank15 s[jn].toNat w2)
          rw [hw] at hb15
          clear hp hw
          by_cases h10 : s[jn].toNat = 10
          · have e1 : ((s[jn].toNat : Int) == 10) = true := by simp; omega
            have HT' := Box.mk (HT.out.yes (by rw [show off + (jn - off) = jn by omega, bt_lt hjs]; exact h10))
            rw [show off + (jn - off) = jn by omega, show jn - off + 1 = jn + 1 - off by omega] at HT'
            clear h10
            go_wp2_with fail
            refine hb15.out.mono ?_
            rintro e w3 ⟨rfl, rfl⟩
            go_wp2
            go_round
            case rel => exact ⟨jn + 1, nl + 1, jn, by omega, hjo, by go_num, by go_num, rfl, by omega, by omega, by omega, HT'⟩
            case measure => simp [intOf]; omega
          · have e1 : ((s[jn].toNat : Int) == 10) = false := by simp; omega
            have HT' := Box.mk (HT.out.no (by rw [show off + (jn - off) = jn by omega, bt_lt hjs]; exact h10))
            rw [show jn - off + 1 = jn + 1 - off by omega] at HT'
            clear h10
            go_wp2_with fail
            refine hb15.out.mono ?_
            rintro e w3 ⟨rfl, rfl⟩
            go_wp2
            go_round
            case rel => exact ⟨jn + 1, nl, la, by omega, hjo, by go_num, rfl, rfl, by omega, by omega, by omega, HT'⟩
            case measure => simp [intOf]; omega
        · have ej : jn = o := by omega
          subst ej
          have ek : jn - off = k := by have := HO.out; omega
          rw [ek] at HT
          have e1 : (l1 != wrap64 (l + (nl : Int))) = false := by
            rw [HL.out, lnTo_eq s off FL.out k, HT.out.nl]; simp
          by_cases hln : la < 0
          · have e2 : (c1 == wrap64 (c + ((jn : Int) - (off : Int)))) = true := by
              have h1 : laTo s off k = -1 := by rw [← HT.out.la]; omega
              rw [HC.out, clTo_none s off FC.out k h1, show ((jn : Int) - (off : Int)) = (k : Int) by omega]; simp
            clear ek hjo
            go_wp2
            go_ret
            exact ⟨rfl, HB.out⟩
          · have e2 : (c1 == (jn : Int) - la - 1) = true := by
              have h1 : ¬ laTo s off k = -1 := by rw [← HT.out.la]; omega
              rw [HC.out, clTo_some s off c k (by omega) h1, ← HT.out.la, show off + k = jn by omega]; simp
            clear ek hjo
            go_wp2
            go_ret
            exact ⟨rfl, HB.out⟩
    · have hos2 : o = s.size := by omega
      have hdec : decide ((o : Int) < (s.size : Int)) = false := by simp; omega
      have d1 : decide (o < off) = false := by simp; omega
      have d2 : decide (s.size < o) = false := by simp; omega
      clear hos2
      go_enter Try.func5, Try.ntmps5
      go_wp2_with fail
      refine h13.out.mono ?_
      rintro e w' ⟨rfl, rfl⟩
      go_wp2_with fail
      refine h14.out.mono ?_
      rintro e w1 ⟨rfl, hb⟩
      have HB := Box.mk hb
      clear hb h13 h14 h15
      go_wp2
      go_loop [12, 13, 14] (fun n a j => ∃ (jn nl : Nat) (la : Int), off ≤ jn ∧ jn ≤ o ∧ j = .int .i64 jn ∧ n = .int .i64 nl ∧ a = .int .i64 la ∧ nl ≤ jn ∧ -1 ≤ la ∧ la < jn ∧ Box (Told s off (jn - off) nl la)) (fun _ _ j => o - (intOf j).toNat)
      case atStart => exact ⟨off, 0, -1, Nat.le_refl _, hoo, rfl, rfl, rfl, Nat.zero_le _, by omega, by omega, ⟨by rw [Nat.sub_self]; exact Told.start s off⟩⟩
      case round =>
        obtain ⟨jn, nl, la, hj1, hj2, rfl, rfl, rfl, hn, hla1, hla2, HT⟩ := hrel
        by_cases hjo : jn < o
        · have hjs : jn < s.size := by omega
          have hjs2 : (jn : Int) < (s.size : Int) := by omega
          have hp := HK.out.pass (jn - off) (by have := HO.out; omega)
          rw [show off + (jn - off) = jn by omega] at hp
          have hw := hp.2
          rw [bt_lt hjs] at hw
          have hb15 := Box.mk (blank15 s[jn].toNat w1)
          rw [hw] at hb15
          clear hp hw
          by_cases h10 : s[jn].toNat = 10
          · have e1 : ((s[jn].toNat : Int) == 10) = true := by simp; omega
            have HT' := Box.mk (HT.out.yes (by rw [show off + (jn - off) = jn by omega, bt_lt hjs]; exact h10))
            rw [show off + (jn - off) = jn by omega, show jn - off + 1 = jn + 1 - off by omega] at HT'
            clear h10
            go_wp2_with fail
            refine hb15.out.mono ?_
            rintro e w3 ⟨rfl, rfl⟩
            go_wp2
            go_round
            case rel => exact ⟨jn + 1, nl + 1, jn, by omega, hjo, by go_num, by go_num, rfl, by omega, by omega, by omega, HT'⟩
            case measure => simp [intOf]; omega
          · have e1 : ((s[jn].toNat : Int) == 10) = false := by simp; omega
            have HT' := Box.mk (HT.out.no (by rw [show off + (jn - off) = jn by omega, bt_lt hjs]; exact h10))
            rw [show jn - off + 1 = jn + 1 - off by omega] at HT'
            clear h10
            go_wp2_with fail
            refine hb15.out.mono ?_
            rintro e w3 ⟨rfl, rfl⟩
            go_wp2
            go_round
            case rel => exact ⟨jn + 1, nl, la, by omega, hjo, by go_num, rfl, rfl, by omega, by omega, by omega, HT'⟩
            case measure => simp [intOf]; omega
        · have ej : jn = o := by omega
          subst ej
          have ek : jn - off = k := by have := HO.out; omega
          rw [ek] at HT
          have e1 : (l1 != wrap64 (l + (nl : Int))) = false := by
            rw [HL.out, lnTo_eq s off FL.out k, HT.out.nl]; simp
          by_cases hln : la < 0
          · have e2 : (c1 == wrap64 (c + ((jn : Int) - (off : Int)))) = true := by
              have h1 : laTo s off k = -1 := by rw [← HT.out.la]; omega
              rw [HC.out, clTo_none s off FC.out k h1, show ((jn : Int) - (off : Int)) = (k : Int) by omega]; simp
            clear ek hjo
            go_wp2
            go_ret
            exact ⟨rfl, HB.out⟩
          · have e2 : (c1 == (jn : Int) - la - 1) = true := by
              have h1 : ¬ laTo s off k = -1 := by rw [← HT.out.la]; omega
              rw [HC.out, clTo_some s off c k (by omega) h1, ← HT.out.la, show off + k = jn by omega]; simp
            clear ek hjo
            go_wp2
            go_ret
            exact ⟨rfl, HB.out⟩

theorem fits {n : Int} (h : (Lit.int .i64 n).wf = true) : Fits n := by
  have := Go.bounds_i64 h
  exact ⟨this.1, this.2⟩

theorem walk5 (s : ByteArray) (off l c : Int) (w : World) (hs : s.size ≤ maxLen) (ho : Fits off) (hl : Fits l) (hc : Fits c) :
    Calls Try.prog 5 #[.string s, .int .i64 off, .int .i64 l, .int .i64 c] w fun e w' => e = .returned (.bool true) ∧ Below w.heap.size w w' := by
  have h13 := Box.mk (bound13 s off l c w hs)
  by_cases h1 : s.size ≤ 1048576
  · by_cases h2 : off < 0
    · rw [decide_eq_true h1] at h13
      go_enter Try.func5, Try.ntmps5
      go_wp2_with fail
      refine h13.out.mono ?_
      rintro e w' ⟨rfl, rfl⟩
      go_wp2
      go_ret
      exact ⟨rfl, Below.refl _ _⟩
    · obtain ⟨n, rfl⟩ : ∃ n : Nat, off = (n : Int) := ⟨off.toNat, by omega⟩
      exact main5 s n l c w h1 (by have := ho.2; omega) hl hc
  · rw [decide_eq_false h1] at h13
    go_enter Try.func5, Try.ntmps5
    go_wp2_with fail
    refine h13.out.mono ?_
    rintro e w' ⟨rfl, rfl⟩
    go_wp2
    go_ret
    exact ⟨rfl, Below.refl _ _⟩
end Go.Proofs.Qxb6617838a
