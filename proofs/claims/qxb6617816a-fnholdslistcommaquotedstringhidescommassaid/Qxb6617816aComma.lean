/-
  THE WALKS of holdsListComma (27), ZZHoldsListComma (8), zzHasByte (9) and the two length bounds (7, 10): each computes a plain function of Qxb6617816aPlain.
-/
import Derived.Test.Qxb6617816aRows
import Derived.Test.Qxb6617816aPlain
import Derived.WalkKit
import Derived.WalkSpells
import Derived.WalkLawsBesides
namespace Go.Proofs.Qxb6617816a
open Go.RowKit
open Plain

theorem ret_bool {a b : Bool} (h : a = b) : Ending.returned (.bool a) = .returned (.bool b) := by rw [h]

theorem nat_of_eq {c : UInt8} {n : Int} (h : ((c.toNat : Int) == n) = true) : (c.toNat : Int) = n := by simpa using h
theorem nat_of_ne {c : UInt8} {n : Int} (h : ((c.toNat : Int) == n) = false) : ¬ (c.toNat : Int) = n := by simpa using h

set_option maxHeartbeats 400000 in
theorem comma27 (s : ByteArray) (w : World) (hs : s.size ≤ 4194304) :
    Calls Try.prog 27 #[.string s] w fun e w' => e = .returned (.bool (holds s.data.toList)) ∧ w' = w := by
  go_enter Try.func27, Try.ntmps27
  go_wp2
  go_loop [3, 4] (fun q i => ∃ (k : Nat) (b : Bool), i = .int .i64 k ∧ q = .bool b ∧ Inv s k b) (fun _ i => s.size + 1 - (intOf i).toNat)
  case atStart => exact ⟨0, false, rfl, rfl, Inv.start s⟩
  case round =>
    obtain ⟨k, b, rfl, rfl, hinv⟩ := hrel
    have hle := hinv.le
    by_cases hlt : k < s.size
    · go_wp2
      · have h1 := nat_of_eq (c := s[k]) (n := 34) (by assumption)
        go_round
        case rel => exact ⟨k + 1, !b, by go_num, rfl, hinv.quote hlt (by omega)⟩
        case measure => simp [intOf]; omega
      · have h1 := nat_of_eq (c := s[k]) (n := 92) (by assumption)
        have hb : b = true := by assumption
        go_round
        case rel => exact ⟨k + 2, b, by go_num, rfl, by subst hb; exact hinv.skip hlt (by omega)⟩
        case measure => simp [intOf]; omega
      · have h1 := nat_of_eq (c := s[k]) (n := 92) (by assumption)
        have hb : b = false := by assumption
        go_round
        case rel => exact ⟨k + 1, b, by go_num, rfl, by subst hb; exact hinv.other hlt (by omega) (by simp) (fun _ => by omega)⟩
        case measure => simp [intOf]; omega
      · have h1 := nat_of_eq (c := s[k]) (n := 44) (by assumption)
        have hb : b = false := by have h : (!b) = true := by assumption
                                  simpa using h
        go_ret
        exact ⟨ret_bool (by subst hb; exact (hinv.comma hlt (by omega)).symm), rfl⟩
      · have h1 := nat_of_eq (c := s[k]) (n := 44) (by assumption)
        have hb : b = true := by have h : (!b) = false := by assumption
                                 simpa using h
        go_round
        case rel => exact ⟨k + 1, b, by go_num, rfl, by subst hb; exact hinv.other hlt (by omega) (fun _ => by omega) (by simp)⟩
        case measure => simp [intOf]; omega
      · have h1 := nat_of_ne (c := s[k]) (n := 34) (by assumption)
        have h2 := nat_of_ne (c := s[k]) (n := 92) (by assumption)
        have h3 := nat_of_ne (c := s[k]) (n := 44) (by assumption)
        go_round
        case rel => exact ⟨k + 1, b, by go_num, rfl, hinv.other hlt (by omega) (fun _ => by omega) (fun _ => by omega)⟩
        case measure => simp [intOf]; omega
    · go_wp2
      go_ret
      exact ⟨ret_bool (hinv.out hlt).symm, rfl⟩

set_option maxHeartbeats 400000 in
theorem comma8 (s : ByteArray) (w : World) (hs : s.size ≤ 4194304) :
    Calls Try.prog 8 #[.string s] w fun e w' => e = .returned (.bool (holds s.data.toList)) ∧ w' = w := by
  go_enter Try.func8, Try.ntmps8
  go_wp2_with (go_at_call 27; refine (comma27 _ _ hs).mono ?_; rintro e w' ⟨rfl, rfl⟩)
  go_ret
  exact ⟨rfl, rfl⟩

theorem has_snoc (n : Nat) (s : ByteArray) (k : Nat) (h : k < s.size) : has n (s.data.toList.take (k + 1)) = (has n (s.data.toList.take k) || s[k].toNat == n) := by
  unfold has; rw [take_snoc s k h, List.any_append]; simp

theorem has_take {n : Nat} {s : ByteArray} {k : Nat} (h : has n (s.data.toList.take k) = true) : has n s.data.toList = true := by
  unfold has at *
  rw [← List.take_append_drop k s.data.toList, List.any_append, h]; rfl

set_option maxHeartbeats 400000 in
theorem has9 (s : ByteArray) (n : Nat) (w : World) (hs : s.size ≤ 4194304) :
    Calls Try.prog 9 #[.string s, .int .u8 n] w fun e w' => e = .returned (.bool (has n s.data.toList)) ∧ w' = w := by
  go_enter Try.func9, Try.ntmps9
  go_wp2
  go_loop [5] (fun i => ∃ k : Nat, k ≤ s.size ∧ i = .int .i64 k ∧ has n (s.data.toList.take k) = false) (fun i => s.size - (intOf i).toNat)
  case atStart => exact ⟨0, Nat.zero_le _, rfl, rfl⟩
  case round =>
    obtain ⟨k, hk, rfl, hn0⟩ := hrel
    have HN : Hid (has n (s.data.toList.take k) = false) := hn0
    clear hn0
    by_cases hlt : k < s.size
    · go_wp2
      · have h1 := nat_of_eq (c := s[k]) (n := n) (by assumption)
        go_ret
        exact ⟨ret_bool (has_take (k := k + 1) (by rw [has_snoc n s k hlt]; simp; omega)).symm, rfl⟩
      · have h1 := nat_of_ne (c := s[k]) (n := n) (by assumption)
        go_round
        case rel => exact ⟨k + 1, hlt, by go_num, by rw [has_snoc n s k hlt, HN.out]; simp; omega⟩
        case measure => simp [intOf]; omega
    · go_wp2
      go_ret
      exact ⟨ret_bool (by have h := HN.out; have e : k = s.size := by omega
                          rw [e, take_all] at h; exact h.symm), rfl⟩

set_option maxHeartbeats 400000 in
theorem bound7 (a b : ByteArray) (w : World) (ha : a.size ≤ maxLen) (hb : b.size ≤ maxLen) :
    Calls Try.prog 7 #[.string a, .string b] w fun e w' => e = .returned (.bool (decide (a.size + b.size ≤ 1048576))) ∧ w' = w := by
  unfold maxLen at ha hb
  by_cases h1 : a.size ≤ 1048576
  · by_cases h2 : b.size ≤ 1048576
    · by_cases h3 : a.size + b.size ≤ 1048576
      · go_enter Try.func7, Try.ntmps7
        go_wp2
        go_ret
        exact ⟨ret_bool (by simp [h3]), rfl⟩
      · go_enter Try.func7, Try.ntmps7
        go_wp2
        go_ret
        exact ⟨ret_bool (by simp [h3]), rfl⟩
    · go_enter Try.func7, Try.ntmps7
      go_wp2
      go_ret
      exact ⟨ret_bool (by simp; omega), rfl⟩
  · go_enter Try.func7, Try.ntmps7
    go_wp2
    go_ret
    exact ⟨ret_bool (by simp; omega), rfl⟩

set_option maxHeartbeats 400000 in
theorem bound10 (a b : ByteArray) (w : World) (ha : a.size ≤ maxLen) (hb : b.size ≤ maxLen) :
    Calls Try.prog 10 #[.string a, .string b] w fun e w' => e = .returned (.bool (decide (a.size + b.size ≤ 1048576))) ∧ w' = w := by
  unfold maxLen at ha hb
  by_cases h1 : a.size ≤ 1048576
  · by_cases h2 : b.size ≤ 1048576
    · by_cases h3 : a.size + b.size ≤ 1048576
      · go_enter Try.func10, Try.ntmps10
        go_wp2
        go_ret
        exact ⟨ret_bool (by simp [h3]), rfl⟩
      · go_enter Try.func10, Try.ntmps10
        go_wp2
        go_ret
        exact ⟨ret_bool (by simp [h3]), rfl⟩
    · go_enter Try.func10, Try.ntmps10
      go_wp2
      go_ret
      exact ⟨ret_bool (by simp; omega), rfl⟩
  · go_enter Try.func10, Try.ntmps10
    go_wp2
    go_ret
    exact ⟨ret_bool (by simp; omega), rfl⟩
end Go.Proofs.Qxb6617816a
