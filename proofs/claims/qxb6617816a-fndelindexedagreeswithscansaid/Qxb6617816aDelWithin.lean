/-
  zzValuesAt (23), zzWithinBytes (13): what they read, what they answer.
-/
import Derived.Test.Qxb6617816aDelBase
namespace Go.Proofs.Qxb6617816a
open Go.RowKit

/-- The elements of a slice of slices of strings: each one's address, capacity and strings. -/
abbrev VV := List (Option Addr × Nat × List ByteArray)

/-- A slice of slices of strings at 'ao' reads as 'vv'. -/
def Vals (w : World) (ao : Option Addr) (vv : VV) : Prop :=
  vv = [] ∨ ∃ b off, ao = some ⟨b, off, none⟩ ∧ ∀ i (h : i < vv.length), w.cell? ⟨b, off + i, none⟩ = some (.slice vv[i].1 vv[i].2.2.length vv[i].2.1) ∧ Strs w vv[i].1 vv[i].2.2 ∧ vv[i].2.2.length ≤ maxLen

/-- The element at 'i'; nil behind the end. -/
def vAt (vv : VV) (i : Nat) : Option Addr × Nat × List ByteArray := if h : i < vv.length then vv[i] else (none, 0, [])

set_option maxHeartbeats 400000 in
theorem valuesAt23 (ao : Option Addr) (cap : Nat) (vv : VV) (i : Nat) (w : World) (hl : vv.length ≤ maxLen) (hV : Vals w ao vv) :
    Calls Try.prog 23 #[.slice ao vv.length cap, .int .i64 i] w fun e w' => e = .returned (.slice (vAt vv i).1 (vAt vv i).2.2.length (vAt vv i).2.1) ∧ w' = w := by
  unfold maxLen at hl
  by_cases hlt : i < vv.length
  · rcases hV with rfl | ⟨b, off, rfl, hc⟩
    · simp at hlt
    have hck := (hc i hlt).1
    clear hc
    have e : vAt vv i = vv[i] := by unfold vAt; rw [dif_pos hlt]
    rw [e]
    clear e
    generalize vv[i] = x at hck ⊢
    go_enter Try.func23, Try.ntmps23
    go_wp2
    go_ret
    exact ⟨rfl, rfl⟩
  · have e : vAt vv i = (none, 0, []) := by unfold vAt; rw [dif_neg hlt]
    rw [e]
    clear e
    go_enter Try.func23, Try.ntmps23
    go_wp2
    go_ret
    exact ⟨rfl, rfl⟩

/-- What zzWithinBytes says: where it answers true, each element has few strings. -/
def Within (vv : VV) (w : World) (e : Ending) (w' : World) : Prop := ∃ r, e = .returned (.bool r) ∧ w' = w ∧ (r = true → ∀ i (h : i < vv.length), vv[i].2.2.length ≤ 65536)

set_option maxHeartbeats 1600000 in
theorem within13 (ao bo co : Option Addr) (ca cb cc : Nat) (l : List ByteArray) (vv : VV) (m : List ByteArray) (w : World)
    (hl : l.length ≤ maxLen) (hv : vv.length ≤ maxLen) (hm : m.length ≤ maxLen) (hS : Strs w ao l) (hV : Vals w bo vv) (hT : Strs w co m) :
    Calls Try.prog 13 #[.slice ao l.length ca, .slice bo vv.length cb, .slice co m.length cc] w fun e w' => Within vv w e w' := by
  unfold maxLen at hl hv hm
  have HS := Hid.mk' hS
  have HV := Hid.mk' hV
  have HT := Hid.mk' hT
  clear hS hV hT
  go_enter Try.func13, Try.ntmps13
  go_wp2
  go_loop [7, 8] (fun t i => ∃ (k : Nat) (z : Int), k ≤ l.length ∧ i = .int .i64 k ∧ t = .int .i64 z ∧ 0 ≤ z ∧ z ≤ 1048576) (fun _ i => l.length - (intOf i).toNat)
  case atStart => exact ⟨0, 0, Nat.zero_le _, rfl, rfl, by omega, by omega⟩
  case round =>
    obtain ⟨k, z, hk, rfl, rfl, hz1, hz2⟩ := hrel
    by_cases hlt : k < l.length
    · rcases HS.out with rfl | ⟨b, off, rfl, hc⟩
      · simp at hlt
      have hck := hc k hlt
      clear hc
      go_wp2
      · go_ret
        exact ⟨false, rfl, rfl, by simp⟩
      · go_ret
        exact ⟨false, rfl, rfl, by simp⟩
      · go_round
        case rel => exact ⟨k + 1, _, hlt, by go_num, rfl, by omega, by omega⟩
        case measure => simp [intOf]; omega
    · go_wp2
      go_loop [7, 9] (fun t i => ∃ (k : Nat) (z : Int), k ≤ vv.length ∧ i = .int .i64 k ∧ t = .int .i64 z ∧ 0 ≤ z ∧ z ≤ 1048576 ∧ Hid (∀ i (h : i < vv.length), i < k → vv[i].2.2.length ≤ 65536)) (fun _ i => vv.length - (intOf i).toNat)
      case atStart => exact ⟨0, z, Nat.zero_le _, rfl, rfl, hz1, hz2, fun _ _ h => absurd h (Nat.not_lt_zero _)⟩
      case round =>
        clear hz1 hz2 hlt hk
        obtain ⟨k, z, hk, rfl, rfl, hz1, hz2, HB⟩ := hrel
        by_cases hlt : k < vv.length
        · rcases HV.out with rfl | ⟨b, off, rfl, hc⟩
          · simp at hlt
          obtain ⟨hck, hSk, hlk⟩ := hc k hlt
          clear hc
          unfold maxLen at hlk
          have HK := Hid.mk' hSk
          clear hSk
          obtain ⟨x, hx⟩ : ∃ x, x = vv[k] := ⟨_, rfl⟩
          rw [← hx] at hck hlk HK
          have HX := Hid.mk' hx
          clear hx
          obtain ⟨xa, xc, xl⟩ := x
          simp only at hck hlk HK
          go_wp2
          · go_ret
            exact ⟨false, rfl, rfl, by simp⟩
          · go_loop [7, 11] (fun t i => ∃ (k : Nat) (z : Int), k ≤ xl.length ∧ i = .int .i64 k ∧ t = .int .i64 z ∧ 0 ≤ z ∧ z ≤ 1048576 ∧ 16 * k ≤ z) (fun _ i => xl.length - (intOf i).toNat)
            case atStart => exact ⟨0, _, Nat.zero_le _, rfl, rfl, by omega, by omega, by omega⟩
            case round =>
              clear hz1 hz2
              obtain ⟨j, z, hj, rfl, rfl, hz1, hz2, hz3⟩ := hrel
              by_cases hjlt : j < xl.length
              · rcases HK.out with rfl | ⟨b', off', rfl, hc'⟩
                · simp at hjlt
                have hcj := hc' j hjlt
                clear hc'
                go_wp2
                · go_ret
                  exact ⟨false, rfl, rfl, by simp⟩
                · go_ret
                  exact ⟨false, rfl, rfl, by simp⟩
                · go_round
                  case rel => exact ⟨j + 1, _, hjlt, by go_num, rfl, by omega, by omega, by omega⟩
                  case measure => simp [intOf]; omega
              · go_wp2
                go_round
                case rel => exact ⟨k + 1, z, hlt, by go_num, rfl, hz1, hz2, fun i h hi => by
                  rcases Nat.lt_or_ge i k with h2 | h2
                  · exact HB.out i h h2
                  · have e : i = k := by omega
                    subst e
                    rw [← HX.out]
                    show xl.length ≤ 65536
                    omega⟩
                case measure => simp [intOf]; omega
        · go_wp2
          go_loop [7, 12] (fun t i => ∃ (k : Nat) (z : Int), k ≤ m.length ∧ i = .int .i64 k ∧ t = .int .i64 z ∧ 0 ≤ z ∧ z ≤ 1048576) (fun _ i => m.length - (intOf i).toNat)
          case atStart => exact ⟨0, z, Nat.zero_le _, rfl, rfl, hz1, hz2⟩
          case round =>
            have hall : Hid (∀ i (h : i < vv.length), vv[i].2.2.length ≤ 65536) := fun i h => HB.out i h (by omega)
            clear hz1 hz2 hlt hk HB
            obtain ⟨k, z, hk, rfl, rfl, hz1, hz2⟩ := hrel
            by_cases hlt : k < m.length
            · rcases HT.out with rfl | ⟨b, off, rfl, hc⟩
              · simp at hlt
              have hck := hc k hlt
              clear hc
              go_wp2
              · go_ret
                exact ⟨false, rfl, rfl, by simp⟩
              · go_ret
                exact ⟨false, rfl, rfl, by simp⟩
              · go_round
                case rel => exact ⟨k + 1, _, hlt, by go_num, rfl, by omega, by omega⟩
                case measure => simp [intOf]; omega
            · go_wp2
              go_ret
              exact ⟨true, rfl, rfl, fun _ => hall.out⟩
end Go.Proofs.Qxb6617816a
