/-
  THE TWO LENGTH BOUNDS of the Del laws (12 and 26): each answers a Bool and leaves the world as it was.
-/
import Derived.Test.Qxb6617816aDelWithin
namespace Go.Proofs.Qxb6617816a
open Go.RowKit

/-- It answers a Bool; the world is as it was. -/
def AnyBool (w : World) (e : Ending) (w' : World) : Prop := ∃ r, e = .returned (.bool r) ∧ w' = w

set_option maxRecDepth 20000 in
set_option maxHeartbeats 1600000 in
theorem bytes12 (ao bo co : Option Addr) (ca cb cc : Nat) (l : List ByteArray) (vv : VV) (m : List ByteArray) (ix : Bool) (w : World)
    (hl : l.length ≤ maxLen) (hv : vv.length ≤ maxLen) (hm : m.length ≤ maxLen) (hS : Strs w ao l) (hV : Vals w bo vv) (hT : Strs w co m) :
    Calls Try.prog 12 #[.slice ao l.length ca, .slice bo vv.length cb, .bool ix, .slice co m.length cc] w fun e w' => AnyBool w e w' := by
  unfold maxLen at hl hv hm
  have HS := Hid.mk' hS
  have HV := Hid.mk' hV
  have HT := Hid.mk' hT
  clear hS hV hT
  go_enter Try.func12, Try.ntmps12
  go_wp2
  · go_ret
    exact ⟨false, rfl, rfl⟩
  go_loop [9, 10] (fun t i => ∃ (k : Nat) (z : Int), k ≤ l.length ∧ i = .int .i64 k ∧ t = .int .i64 z ∧ 0 ≤ z ∧ z ≤ 1048576) (fun _ i => l.length - (intOf i).toNat)
  case atStart => exact ⟨0, _, Nat.zero_le _, rfl, rfl, by omega, by omega⟩
  case round =>
    obtain ⟨k, z, hk, rfl, rfl, hz1, hz2⟩ := hrel
    by_cases hlt : k < l.length
    · rcases HS.out with rfl | ⟨b, off, rfl, hc⟩
      · simp at hlt
      have hck := hc k hlt
      clear hc
      go_wp2
      · go_ret
        exact ⟨false, rfl, rfl⟩
      · go_ret
        exact ⟨false, rfl, rfl⟩
      · go_round
        case rel => exact ⟨k + 1, _, hlt, by go_num, rfl, by omega, by omega⟩
        case measure => simp [intOf]; omega
    · go_wp2
      · go_ret
        exact ⟨false, rfl, rfl⟩
      · go_ret
        exact ⟨false, rfl, rfl⟩
      go_loop [9, 11] (fun t i => ∃ (k : Nat) (z : Int), k ≤ vv.length ∧ i = .int .i64 k ∧ t = .int .i64 z ∧ 0 ≤ z ∧ z ≤ 1048576) (fun _ i => vv.length - (intOf i).toNat)
      case atStart => exact ⟨0, _, Nat.zero_le _, rfl, rfl, by omega, by omega⟩
      case round =>
        clear hz1 hz2 hlt hk
        obtain ⟨k, z, hk, rfl, rfl, hz1, hz2⟩ := hrel
        by_cases hlt : k < vv.length
        · rcases HV.out with rfl | ⟨b, off, rfl, hc⟩
          · simp at hlt
          obtain ⟨hck, hSk, hlk⟩ := hc k hlt
          clear hc
          unfold maxLen at hlk
          have HK := Hid.mk' hSk
          clear hSk
          obtain ⟨x, hx⟩ : ∃ x, x = vv[k] := ⟨_, rfl⟩
          rw [← hx] at hck hlk HK
          clear hx
          obtain ⟨xa, xc, xl⟩ := x
          simp only at hck hlk HK
          go_wp2
          · go_ret
            exact ⟨false, rfl, rfl⟩
          · go_ret
            exact ⟨false, rfl, rfl⟩
          · go_loop [9, 12] (fun t i => ∃ (k : Nat) (z : Int), k ≤ xl.length ∧ i = .int .i64 k ∧ t = .int .i64 z ∧ 0 ≤ z ∧ z ≤ 1048576) (fun _ i => xl.length - (intOf i).toNat)
            case atStart => exact ⟨0, _, Nat.zero_le _, rfl, rfl, by omega, by omega⟩
            case round =>
              clear hz1 hz2
              obtain ⟨j, z, hj, rfl, rfl, hz1, hz2⟩ := hrel
              by_cases hjlt : j < xl.length
              · rcases HK.out with rfl | ⟨b', off', rfl, hc'⟩
                · simp at hjlt
                have hcj := hc' j hjlt
                clear hc'
                go_wp2
                · go_ret
                  exact ⟨false, rfl, rfl⟩
                · go_ret
                  exact ⟨false, rfl, rfl⟩
                · go_round
                  case rel => exact ⟨j + 1, _, hjlt, by go_num, rfl, by omega, by omega⟩
                  case measure => simp [intOf]; omega
              · go_wp2
                go_round
                case rel => exact ⟨k + 1, z, hlt, by go_num, rfl, hz1, hz2⟩
                case measure => simp [intOf]; omega
        · go_wp2
          · go_ret
            exact ⟨false, rfl, rfl⟩
          · go_ret
            exact ⟨false, rfl, rfl⟩
          go_loop [9, 13] (fun t i => ∃ (k : Nat) (z : Int), k ≤ m.length ∧ i = .int .i64 k ∧ t = .int .i64 z ∧ 0 ≤ z ∧ z ≤ 1048576) (fun _ i => m.length - (intOf i).toNat)
          case atStart => exact ⟨0, _, Nat.zero_le _, rfl, rfl, by omega, by omega⟩
          case round =>
            clear hz1 hz2 hlt hk
            obtain ⟨k, z, hk, rfl, rfl, hz1, hz2⟩ := hrel
            by_cases hlt : k < m.length
            · rcases HT.out with rfl | ⟨b, off, rfl, hc⟩
              · simp at hlt
              have hck := hc k hlt
              clear hc
              go_wp2
              · go_ret
                exact ⟨false, rfl, rfl⟩
              · go_ret
                exact ⟨false, rfl, rfl⟩
              · go_round
                case rel => exact ⟨k + 1, _, hlt, by go_num, rfl, by omega, by omega⟩
                case measure => simp [intOf]; omega
            · go_wp2
              go_ret
              exact ⟨true, rfl, rfl⟩

set_option maxRecDepth 20000 in
set_option maxHeartbeats 1600000 in
theorem bytes26 (ao bo co : Option Addr) (ca cb cc : Nat) (l : List ByteArray) (vv : VV) (m : List ByteArray) (w : World)
    (hl : l.length ≤ maxLen) (hv : vv.length ≤ maxLen) (hm : m.length ≤ maxLen) (hS : Strs w ao l) (hV : Vals w bo vv) (hT : Strs w co m) :
    Calls Try.prog 26 #[.slice ao l.length ca, .slice bo vv.length cb, .slice co m.length cc] w fun e w' => AnyBool w e w' := by
  unfold maxLen at hl hv hm
  have HS := Hid.mk' hS
  have HV := Hid.mk' hV
  have HT := Hid.mk' hT
  clear hS hV hT
  go_enter Try.func26, Try.ntmps26
  go_wp2
  · go_ret
    exact ⟨false, rfl, rfl⟩
  go_loop [7, 8] (fun t i => ∃ (k : Nat) (z : Int), k ≤ l.length ∧ i = .int .i64 k ∧ t = .int .i64 z ∧ 0 ≤ z ∧ z ≤ 1048576) (fun _ i => l.length - (intOf i).toNat)
  case atStart => exact ⟨0, _, Nat.zero_le _, rfl, rfl, by omega, by omega⟩
  case round =>
    obtain ⟨k, z, hk, rfl, rfl, hz1, hz2⟩ := hrel
    by_cases hlt : k < l.length
    · rcases HS.out with rfl | ⟨b, off, rfl, hc⟩
      · simp at hlt
      have hck := hc k hlt
      clear hc
      go_wp2
      · go_ret
        exact ⟨false, rfl, rfl⟩
      · go_ret
        exact ⟨false, rfl, rfl⟩
      · go_round
        case rel => exact ⟨k + 1, _, hlt, by go_num, rfl, by omega, by omega⟩
        case measure => simp [intOf]; omega
    · go_wp2
      · go_ret
        exact ⟨false, rfl, rfl⟩
      · go_ret
        exact ⟨false, rfl, rfl⟩
      go_loop [7, 9] (fun t i => ∃ (k : Nat) (z : Int), k ≤ vv.length ∧ i = .int .i64 k ∧ t = .int .i64 z ∧ 0 ≤ z ∧ z ≤ 1048576) (fun _ i => vv.length - (intOf i).toNat)
      case atStart => exact ⟨0, _, Nat.zero_le _, rfl, rfl, by omega, by omega⟩
      case round =>
        clear hz1 hz2 hlt hk
        obtain ⟨k, z, hk, rfl, rfl, hz1, hz2⟩ := hrel
        by_cases hlt : k < vv.length
        · rcases HV.out with rfl | ⟨b, off, rfl, hc⟩
          · simp at hlt
          obtain ⟨hck, hSk, hlk⟩ := hc k hlt
          clear hc
          unfold maxLen at hlk
          have HK := Hid.mk' hSk
          clear hSk
          obtain ⟨x, hx⟩ : ∃ x, x = vv[k] := ⟨_, rfl⟩
          rw [← hx] at hck hlk HK
          clear hx
          obtain ⟨xa, xc, xl⟩ := x
          simp only at hck hlk HK
          go_wp2
          · go_ret
            exact ⟨false, rfl, rfl⟩
          · go_ret
            exact ⟨false, rfl, rfl⟩
          · go_loop [7, 10] (fun t i => ∃ (k : Nat) (z : Int), k ≤ xl.length ∧ i = .int .i64 k ∧ t = .int .i64 z ∧ 0 ≤ z ∧ z ≤ 1048576) (fun _ i => xl.length - (intOf i).toNat)
            case atStart => exact ⟨0, _, Nat.zero_le _, rfl, rfl, by omega, by omega⟩
            case round =>
              clear hz1 hz2
              obtain ⟨j, z, hj, rfl, rfl, hz1, hz2⟩ := hrel
              by_cases hjlt : j < xl.length
              · rcases HK.out with rfl | ⟨b', off', rfl, hc'⟩
                · simp at hjlt
                have hcj := hc' j hjlt
                clear hc'
                go_wp2
                · go_ret
                  exact ⟨false, rfl, rfl⟩
                · go_ret
                  exact ⟨false, rfl, rfl⟩
                · go_round
                  case rel => exact ⟨j + 1, _, hjlt, by go_num, rfl, by omega, by omega⟩
                  case measure => simp [intOf]; omega
              · go_wp2
                go_round
                case rel => exact ⟨k + 1, z, hlt, by go_num, rfl, hz1, hz2⟩
                case measure => simp [intOf]; omega
        · go_wp2
          · go_ret
            exact ⟨false, rfl, rfl⟩
          · go_ret
            exact ⟨false, rfl, rfl⟩
          go_loop [7, 11] (fun t i => ∃ (k : Nat) (z : Int), k ≤ m.length ∧ i = .int .i64 k ∧ t = .int .i64 z ∧ 0 ≤ z ∧ z ≤ 1048576) (fun _ i => m.length - (intOf i).toNat)
          case atStart => exact ⟨0, _, Nat.zero_le _, rfl, rfl, by omega, by omega⟩
          case round =>
            clear hz1 hz2 hlt hk
            obtain ⟨k, z, hk, rfl, rfl, hz1, hz2⟩ := hrel
            by_cases hlt : k < m.length
            · rcases HT.out with rfl | ⟨b, off, rfl, hc⟩
              · simp at hlt
              have hck := hc k hlt
              clear hc
              go_wp2
              · go_ret
                exact ⟨false, rfl, rfl⟩
              · go_ret
                exact ⟨false, rfl, rfl⟩
              · go_round
                case rel => exact ⟨k + 1, _, hlt, by go_num, rfl, by omega, by omega⟩
                case measure => simp [intOf]; omega
            · go_wp2
              go_ret
              exact ⟨true, rfl, rfl⟩
end Go.Proofs.Qxb6617816a
