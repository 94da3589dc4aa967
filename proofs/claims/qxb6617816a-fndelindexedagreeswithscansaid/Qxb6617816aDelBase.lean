/-
  THE DEL LAWS' COMMON GROUND: slices of strings that are read; the small reading functions zzIndexOf (21), zzHolds (20), zzDistinct (14), zzSameStrings (22), zzValuesAt (23).
-/
import Derived.Test.Qxb6617816aRows
import Derived.WalkKit
import Derived.WalkSpells
import Derived.WalkLawsBesides
import Derived.Deep.QuietTactic
import Derived.BigQuiet
namespace Go.Proofs.Qxb6617816a
open Go.RowKit

theorem Hid.mk' {p : Prop} (h : p) : Hid p := h
theorem ret_bool {a b : Bool} (h : a = b) : Ending.returned (.bool a) = .returned (.bool b) := by rw [h]
theorem ret_i64 {a b : Int} (h : a = b) : Ending.returned (.int .i64 a) = .returned (.int .i64 b) := by rw [h]

/-- Two strings are one: the walk's own test. -/
def eqS (a b : ByteArray) : Bool := a.toList == b.toList

theorem eqS_iff {a b : ByteArray} : eqS a b = true ↔ a = b := by
  unfold eqS
  rw [ByteArray.toList_eq, ByteArray.toList_eq, beq_iff_eq]
  constructor
  · intro h
    cases a; cases b
    simp only [ByteArray.mk.injEq] at *
    exact Array.toList_inj.1 h
  · intro h; rw [h]

theorem eqS_false {a b : ByteArray} : eqS a b = false ↔ ¬ a = b := by
  rw [← eqS_iff]; simp

theorem of_beq {a b : ByteArray} (h : (a.toList == b.toList) = true) : a = b := eqS_iff.1 h
theorem of_bne {a b : ByteArray} (h : (a.toList == b.toList) = false) : ¬ a = b := eqS_false.1 h
theorem of_nbeq {a b : ByteArray} (h : (!(a.toList == b.toList)) = false) : a = b := of_beq (by simpa using h)
theorem of_nbne {a b : ByteArray} (h : (!(a.toList == b.toList)) = true) : ¬ a = b := of_bne (by simpa using h)

/-- 's' stands in 'l'. -/
def hasS (l : List ByteArray) (s : ByteArray) : Bool := l.any fun x => eqS x s

theorem hasS_iff {l : List ByteArray} {s : ByteArray} : hasS l s = true ↔ s ∈ l := by
  unfold hasS
  rw [List.any_eq_true]
  constructor
  · rintro ⟨x, hx, h⟩; rw [← eqS_iff.1 h]; exact hx
  · intro h; exact ⟨s, h, eqS_iff.2 rfl⟩

theorem hasS_false {l : List ByteArray} {s : ByteArray} : hasS l s = false ↔ ¬ s ∈ l := by
  rw [← hasS_iff]; simp

/-- The first place of 's' in 'l'; -1 where there is none. -/
def idx (l : List ByteArray) (s : ByteArray) : Int := if hasS l s = true then ((l.findIdx fun x => eqS x s : Nat) : Int) else -1

theorem idx_miss {l : List ByteArray} {s : ByteArray} (h : ¬ s ∈ l) : idx l s = -1 := by
  unfold idx; rw [hasS_false.2 h]; rfl

theorem idx_hit {l : List ByteArray} {s : ByteArray} {k : Nat} (hk : k < l.length) (e : l[k] = s) (hn : ∀ j (h : j < l.length), j < k → ¬ l[j] = s) : idx l s = k := by
  unfold idx
  rw [hasS_iff.2 (e ▸ List.getElem_mem hk), if_pos rfl]
  congr 1
  rw [List.findIdx_eq hk]
  exact ⟨eqS_iff.2 e, fun j hj => eqS_false.2 (hn j (by omega) hj)⟩

theorem idx_neg {l : List ByteArray} {s : ByteArray} : (decide (0 ≤ idx l s)) = hasS l s := by
  unfold idx
  cases h : hasS l s <;> simp

/-- The cells from 'off' on in block 'b' hold the strings 'l'. -/
def SA (w : World) (b off : Nat) (l : List ByteArray) : Prop := ∀ i (h : i < l.length), w.cell? ⟨b, off + i, none⟩ = some (.string l[i])

/-- A slice of strings at 'ao' reads as 'l'. -/
def Strs (w : World) (ao : Option Addr) (l : List ByteArray) : Prop := l = [] ∨ ∃ b off, ao = some ⟨b, off, none⟩ ∧ SA w b off l

theorem Strs.drewN {w : World} {ao : Option Addr} {l : List ByteArray} (h : Strs w ao l) (n : Nat) : Strs (w.drewN n) ao l := h

theorem not_before_all {l : List ByteArray} {s : ByteArray} {k : Nat} (hk : ¬ k < l.length) (hn : ∀ j (h : j < l.length), j < k → ¬ l[j] = s) : ¬ s ∈ l := by
  intro hm
  obtain ⟨j, hj, e⟩ := List.mem_iff_getElem.1 hm
  exact hn j hj (by omega) e

set_option maxHeartbeats 400000 in
theorem index21 (ao : Option Addr) (cap : Nat) (l : List ByteArray) (s : ByteArray) (w : World) (hl : l.length ≤ maxLen) (hS : Strs w ao l) :
    Calls Try.prog 21 #[.slice ao l.length cap, .string s] w fun e w' => e = .returned (.int .i64 (idx l s)) ∧ w' = w := by
  unfold maxLen at hl
  go_enter Try.func21, Try.ntmps21
  go_wp2
  go_loop [5] (fun i => ∃ k : Nat, k ≤ l.length ∧ i = .int .i64 k ∧ Hid (∀ j (h : j < l.length), j < k → ¬ l[j] = s)) (fun i => l.length - (intOf i).toNat)
  case atStart => exact ⟨0, Nat.zero_le _, rfl, fun _ _ h => absurd h (Nat.not_lt_zero _)⟩
  case round =>
    obtain ⟨k, hk, rfl, HN⟩ := hrel
    by_cases hlt : k < l.length
    · rcases hS with rfl | ⟨b, off, rfl, hc⟩
      · simp at hlt
      have hck := hc k hlt
      clear hc
      go_wp2
      · have h1 := of_beq (a := l[k]) (b := s) (by assumption)
        go_ret
        exact ⟨ret_i64 (idx_hit hlt h1 HN.out).symm, rfl⟩
      · have h1 := of_bne (a := l[k]) (b := s) (by assumption)
        go_round
        case rel => exact ⟨k + 1, hlt, by go_num, fun j h hj => by
          rcases Nat.lt_or_ge j k with h2 | h2
          · exact HN.out j h h2
          · have e : j = k := by omega
            subst e; exact h1⟩
        case measure => simp [intOf]; omega
    · go_wp2
      go_ret
      exact ⟨ret_i64 (idx_miss (not_before_all hlt HN.out)).symm, rfl⟩

set_option maxHeartbeats 400000 in
theorem holds20 (ao : Option Addr) (cap : Nat) (l : List ByteArray) (s : ByteArray) (w : World) (hl : l.length ≤ maxLen) (hS : Strs w ao l) :
    Calls Try.prog 20 #[.slice ao l.length cap, .string s] w fun e w' => e = .returned (.bool (hasS l s)) ∧ w' = w := by
  have HS := Hid.mk' hS
  clear hS
  go_enter Try.func20, Try.ntmps20
  go_wp2_with fail
  refine (index21 ao cap l s _ hl HS.out).mono ?_
  rintro e w' ⟨rfl, rfl⟩
  go_wp2
  go_ret
  exact ⟨ret_bool idx_neg, rfl⟩

/-- No name stands twice. -/
def distinct (l : List ByteArray) : Prop := ∀ i j (hi : i < l.length) (hj : j < l.length), j < i → ¬ l[i] = l[j]

set_option maxHeartbeats 800000 in
theorem distinct14 (ao : Option Addr) (cap : Nat) (l : List ByteArray) (w : World) (hl : l.length ≤ maxLen) (hS : Strs w ao l) :
    Calls Try.prog 14 #[.slice ao l.length cap] w fun e w' => ∃ r n, e = .returned (.bool r) ∧ w' = w.drewN n ∧ (r = true ↔ distinct l) := by
  unfold maxLen at hl
  go_enter Try.func14, Try.ntmps14
  go_wp2
  go_loopw [3, 4] (fun i _ wr => ∃ k n : Nat, k ≤ l.length ∧ i = .int .i64 k ∧ wr = w.drewN n ∧ Hid (∀ i j (hi : i < l.length) (hj : j < l.length), i < k → j < i → ¬ l[i] = l[j])) (fun i _ _ => l.length - (intOf i).toNat)
  case atStart => exact ⟨0, 0, Nat.zero_le _, rfl, rfl, fun _ _ _ _ h => absurd h (Nat.not_lt_zero _)⟩
  case round =>
    obtain ⟨k, n, hk, rfl, rfl, HN⟩ := hrel
    by_cases hlt : k < l.length
    · rcases hS with rfl | ⟨b, off, rfl, hc⟩
      · simp at hlt
      have hck := hc k hlt
      have HC := Hid.mk' hc
      clear hc
      go_wp2
      go_loopw [4] (fun i wr => ∃ j n : Nat, j ≤ k ∧ i = .int .i64 j ∧ wr = w.drewN n ∧ Hid (∀ i (hi : i < l.length), i < j → ¬ l[k] = l[i])) (fun i _ => k - (intOf i).toNat)
      case atStart => exact ⟨0, n, Nat.zero_le _, rfl, rfl, fun _ _ h => absurd h (Nat.not_lt_zero _)⟩
      case round =>
        obtain ⟨j, n2, hj, rfl, rfl, HM⟩ := hrel
        by_cases hjk : j < k
        · have hcj := HC.out j (by omega)
          have hjl : j < l.length := by omega
          go_wp2
          go_quiet (fail)
          go_wp2
          · have h1 := of_beq (a := l[k]) (b := l[j]) (by assumption)
            go_ret
            exact ⟨false, n2 + nq, rfl, by rw [World.drewN_drewN], by simp only [Bool.false_eq_true, false_iff]; intro hd; exact hd k j hlt hjl hjk h1⟩
          · have h1 := of_bne (a := l[k]) (b := l[j]) (by assumption)
            go_roundw
            case rel => exact ⟨j + 1, _, hjk, by go_num, rfl, fun i hi h => by
              rcases Nat.lt_or_ge i j with h2 | h2
              · exact HM.out i hi h2
              · have e : i = j := by omega
                subst e; exact h1⟩
            case measure => simp [intOf]; omega
        · go_wp2
          go_roundw
          case rel => exact ⟨k + 1, _, hlt, by go_num, rfl, fun i1 j1 hi1 hj1 h h' => by
              rcases Nat.lt_or_ge i1 k with h2 | h2
              · exact HN.out i1 j1 hi1 hj1 h2 h'
              · have e : i1 = k := by omega
                subst e; exact HM.out j1 hj1 (by omega)⟩
          case measure => simp [intOf]; omega
    · go_wp2
      go_ret
      exact ⟨true, _, rfl, rfl, by simp only [true_iff]; intro i j hi hj h; exact HN.out i j hi hj (by omega) h⟩

set_option maxHeartbeats 800000 in
theorem same22 (ao bo : Option Addr) (ca cb : Nat) (l m : List ByteArray) (w : World) (hl : l.length ≤ maxLen) (hS : Strs w ao l) (hT : Strs w bo m) (he : l = m) :
    Calls Try.prog 22 #[.slice ao l.length ca, .slice bo m.length cb] w fun e w' => ∃ n, e = .returned (.bool true) ∧ w' = w.drewN n := by
  subst he
  unfold maxLen at hl
  have hne : ((l.length : Int) != (l.length : Int)) = false := by simp
  go_enter Try.func22, Try.ntmps22
  go_wp2
  clear hne
  go_loopw [5] (fun i wr => ∃ k n : Nat, k ≤ l.length ∧ i = .int .i64 k ∧ wr = w.drewN n) (fun i _ => l.length - (intOf i).toNat)
  case atStart => exact ⟨0, 0, Nat.zero_le _, rfl, rfl⟩
  case round =>
    obtain ⟨k, n, hk, rfl, rfl⟩ := hrel
    by_cases hlt : k < l.length
    · rcases hS with rfl | ⟨b, off, rfl, hc⟩
      · simp at hlt
      rcases hT with rfl | ⟨b', off', rfl, hc'⟩
      · simp at hlt
      have hck := hc k hlt
      have hck' := hc' k hlt
      clear hc hc'
      have hq : (!(l[k].toList == l[k].toList)) = false := by simp
      go_wp2
      go_quiet (fail)
      go_wp2
      go_roundw
      case rel => exact ⟨k + 1, _, hlt, by go_num, rfl⟩
      case measure => simp [intOf]; omega
    · go_wp2
      go_ret
      exact ⟨_, rfl, rfl⟩
end Go.Proofs.Qxb6617816a
