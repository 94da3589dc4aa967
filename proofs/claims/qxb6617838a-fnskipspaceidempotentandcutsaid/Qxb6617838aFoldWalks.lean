/-
  THE WALKS of lowerASCII (26), equalFoldASCII (24), ZZEqualFoldASCII (18), zzIsLetter (25): each computes a plain function of Qxb6617838aFold.
-/
import Derived.Test.Qxb6617838aRows
import Derived.Test.Qxb6617838aFold
import Derived.WalkKit
import Derived.WalkSpells
import Derived.WalkLawsBesides
import Derived.Deep.QuietTactic
import Derived.BigQuiet
namespace Go.Proofs.Qxb6617838a
open Go.RowKit
open Plain

/-- A fact kept from the walk, behind a constructor: nothing unfolds it. -/
structure Box (p : Prop) : Prop where
  out : p

theorem ret_bool {a b : Bool} (h : a = b) : Ending.returned (.bool a) = .returned (.bool b) := by rw [h]
theorem ret_u8 {a b : Int} (h : a = b) : Ending.returned (.int .u8 a) = .returned (.int .u8 b) := by rw [h]

set_option maxHeartbeats 400000 in
theorem lower26 (c : UInt8) (w : World) :
    Calls Try.prog 26 #[.int .u8 (c.toNat : Int)] w fun e w' => e = .returned (.int .u8 (lower c : Int)) ∧ w' = w := by
  have hc := c.toNat_lt
  by_cases h1 : 65 ≤ c.toNat
  · by_cases h2 : c.toNat ≤ 90
    · go_enter Try.func26, Try.ntmps26
      go_wp2
      go_ret
      exact ⟨ret_u8 (by unfold lower; rw [if_pos ⟨h1, h2⟩]; simp), rfl⟩
    · go_enter Try.func26, Try.ntmps26
      go_wp2
      go_ret
      exact ⟨ret_u8 (by unfold lower; rw [if_neg (by omega)]), rfl⟩
  · go_enter Try.func26, Try.ntmps26
    go_wp2
    go_ret
    exact ⟨ret_u8 (by unfold lower; rw [if_neg (by omega)]), rfl⟩

set_option maxHeartbeats 400000 in
theorem letter25 (c : UInt8) (w : World) :
    Calls Try.prog 25 #[.int .u8 (c.toNat : Int)] w fun e w' => e = .returned (.bool (letter c)) ∧ w' = w := by
  by_cases h1 : 97 ≤ c.toNat
  · by_cases h2 : c.toNat ≤ 122
    · go_enter Try.func25, Try.ntmps25
      go_wp2
      go_ret
      exact ⟨ret_bool (by rw [Bool.eq_iff_iff, letter_iff]; simp; try omega), rfl⟩
    · go_enter Try.func25, Try.ntmps25
      go_wp2
      go_ret
      exact ⟨ret_bool (by rw [Bool.eq_iff_iff, letter_iff]; simp; try omega), rfl⟩
  · by_cases h2 : 65 ≤ c.toNat
    · by_cases h3 : c.toNat ≤ 90
      · go_enter Try.func25, Try.ntmps25
        go_wp2
        go_ret
        exact ⟨ret_bool (by rw [Bool.eq_iff_iff, letter_iff]; simp; try omega), rfl⟩
      · go_enter Try.func25, Try.ntmps25
        go_wp2
        go_ret
        exact ⟨ret_bool (by rw [Bool.eq_iff_iff, letter_iff]; simp; try omega), rfl⟩
    · go_enter Try.func25, Try.ntmps25
      go_wp2
      go_ret
      exact ⟨ret_bool (by rw [Bool.eq_iff_iff, letter_iff]; simp; try omega), rfl⟩

theorem ne_of_bne {a b : Nat} (h : ((a : Int) != (b : Int)) = true) : ¬ a = b := by
  have : ¬ (a : Int) = (b : Int) := by simpa using h
  omega
theorem eq_of_bne {a b : Nat} (h : ((a : Int) != (b : Int)) = false) : a = b := by
  have : (a : Int) = (b : Int) := by simpa using h
  omega

theorem drewN_more {w wr : World} (h : ∃ n, wr = w.drewN n) (m : Nat) : ∃ n, wr.drewN m = w.drewN n := by
  obtain ⟨n, rfl⟩ := h
  exact ⟨n + m, by rw [World.drewN_drewN]⟩

theorem lower_lt (c : UInt8) : lower c < 256 := by
  have := c.toNat_lt
  unfold lower; split <;> omega

set_option maxHeartbeats 400000 in
theorem fold24 (s t : ByteArray) (w : World) (hs : s.size ≤ maxLen) :
    Calls Try.prog 24 #[.string s, .string t] w fun e w' => e = .returned (.bool (eqf s.data.toList t.data.toList)) ∧ ∃ n, w' = w.drewN n := by
  unfold maxLen at hs
  by_cases hl : s.size = t.size
  · have hne : ((s.size : Int) != (t.size : Int)) = false := by rw [hl]; simp
    have HL := Box.mk hl
    clear hl
    go_enter Try.func24, Try.ntmps24
    go_wp2
    clear hne
    go_loopw [5] (fun i wr => ∃ k : Nat, k ≤ s.size ∧ i = .int .i64 k ∧ Box (∃ n, wr = w.drewN n) ∧ Box ((s.data.toList.take k).map lower = (t.data.toList.take k).map lower)) (fun i _ => s.size - (intOf i).toNat)
    case atStart => exact ⟨0, Nat.zero_le _, rfl, ⟨0, rfl⟩, ⟨by simp⟩⟩
    case round =>
      obtain ⟨k, hk, rfl, HW, HE⟩ := hrel
      by_cases hlt : k < s.size
      · have hlt' : k < t.size := by have := HL.out; omega
        have hlt2 : (k : Int) < (t.size : Int) := by omega
        go_wp2
        go_quiet ((go_at_call 26; exact Calls.quiet_of_same (lower26 _ _)))
        go_wp2
        · have h1 : ¬ lower s[k] = lower t[k] := ne_of_bne (by assumption)
          go_ret
          exact ⟨ret_bool (loop_miss hlt hlt' h1).symm, drewN_more HW.out _⟩
        · have h1 : lower s[k] = lower t[k] := eq_of_bne (by assumption)
          go_roundw
          case rel => exact ⟨k + 1, hlt, by go_num, ⟨drewN_more HW.out _⟩, ⟨loop_step hlt hlt' HE.out h1⟩⟩
          case measure => simp [intOf]; omega
      · go_wp2
        go_ret
        exact ⟨ret_bool (eqf_all (k := k) (by have := HL.out; simpa using this) (by simp; omega) HE.out).symm, HW.out⟩
  · have hne : ((s.size : Int) != (t.size : Int)) = true := by simp; omega
    go_enter Try.func24, Try.ntmps24
    go_wp2
    go_ret
    exact ⟨ret_bool (eqf_len (by simpa using hl)).symm, 0, rfl⟩
end Go.Proofs.Qxb6617838a
