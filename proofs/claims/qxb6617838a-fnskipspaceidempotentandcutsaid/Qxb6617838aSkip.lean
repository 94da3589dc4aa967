/-
  The plain mathematics of 'skipSpace': what it passes, and what line and column become.
-/
import Derived.WalkKit
namespace Go.Proofs.Qxb6617838a.Skip
open Go.RowKit

/-- Byte 'j' of a text, as a number; 0 behind its end. -/
def bt (s : ByteArray) (j : Nat) : Nat := if h : j < s.size then (s[j]'h).toNat else 0

theorem bt_lt {s : ByteArray} {j : Nat} (h : j < s.size) : bt s j = s[j].toNat := by unfold bt; rw [dif_pos h]

/-- White space between tokens. -/
def white (n : Nat) : Bool := n == 32 || n == 9 || n == 13 || n == 10

theorem white_iff {n : Nat} : white n = true ↔ n = 32 ∨ n = 9 ∨ n = 13 ∨ n = 10 := by simp [white, or_assoc]

/-- From 'off' on just 'k' bytes are passed. -/
structure Skips (s : ByteArray) (off k : Nat) : Prop where
  pass : ∀ j, j < k → off + j < s.size ∧ white (bt s (off + j)) = true
  stop : off + k < s.size → white (bt s (off + k)) = false

theorem skips_exists (s : ByteArray) : ∀ (d off : Nat), s.size - off ≤ d → ∃ k, Skips s off k
  | 0, off, h => ⟨0, ⟨fun j hj => absurd hj (Nat.not_lt_zero _), fun h1 => by omega⟩⟩
  | d + 1, off, h => by
    by_cases hb : off < s.size ∧ white (bt s off) = true
    · obtain ⟨k, h1, h2⟩ := skips_exists s d (off + 1) (by omega)
      refine ⟨k + 1, ⟨fun j hj => ?_, fun h3 => ?_⟩⟩
      · cases j with
        | zero => exact hb
        | succ j => have := h1 j (by omega); rw [show off + 1 + j = off + (j + 1) by omega] at this; exact this
      · have := h2 (by omega); rw [show off + 1 + k = off + (k + 1) by omega] at this; exact this
    · refine ⟨0, ⟨fun j hj => absurd hj (Nat.not_lt_zero _), fun h1 => ?_⟩⟩
      cases e : white (bt s (off + 0))
      · rfl
      · exact absurd ⟨h1, e⟩ hb

theorem Skips.unique {s : ByteArray} {off k k' : Nat} (h : Skips s off k) (h' : Skips s off k') : k = k' := by
  rcases Nat.lt_trichotomy k k' with h1 | h1 | h1
  · have h2 := h'.pass k h1
    have h3 := h.stop h2.1
    rw [h2.2] at h3; cases h3
  · exact h1
  · have h2 := h.pass k' h1
    have h3 := h'.stop h2.1
    rw [h2.2] at h3; cases h3

theorem Skips.le {s : ByteArray} {off k : Nat} (h : Skips s off k) : off + k ≤ s.size ∨ k = 0 := by
  cases k with
  | zero => exact Or.inr rfl
  | succ k => have := (h.pass k (by omega)).1; left; omega

/-- The line behind 'k' bytes from 'off' on. -/
def lnTo (s : ByteArray) (off : Nat) (l : Int) : Nat → Int
  | 0 => l
  | k + 1 => if bt s (off + k) = 10 then wrap64 (lnTo s off l k + 1) else lnTo s off l k

/-- The column. -/
def clTo (s : ByteArray) (off : Nat) (c : Int) : Nat → Int
  | 0 => c
  | k + 1 => if bt s (off + k) = 10 then 0 else wrap64 (clTo s off c k + 1)

/-- How many newlines. -/
def nlTo (s : ByteArray) (off : Nat) : Nat → Nat
  | 0 => 0
  | k + 1 => if bt s (off + k) = 10 then nlTo s off k + 1 else nlTo s off k

/-- The last newline's place; -1 where there is none. -/
def laTo (s : ByteArray) (off : Nat) : Nat → Int
  | 0 => -1
  | k + 1 => if bt s (off + k) = 10 then ((off + k : Nat) : Int) else laTo s off k

def Fits (n : Int) : Prop := -9223372036854775808 ≤ n ∧ n ≤ 9223372036854775807

theorem wrap_fits {n : Int} (h : Fits n) : wrap64 n = n := by
  obtain ⟨h1, h2⟩ := h
  unfold wrap64; omega

theorem wrap_add (a : Int) (b : Int) : wrap64 (wrap64 a + b) = wrap64 (a + b) := by unfold wrap64; omega

theorem nlTo_le (s : ByteArray) (off : Nat) : ∀ k, nlTo s off k ≤ k
  | 0 => Nat.le_refl _
  | k + 1 => by
    have := nlTo_le s off k
    unfold nlTo; split <;> omega

theorem lnTo_eq (s : ByteArray) (off : Nat) {l : Int} (hl : Fits l) : ∀ k, lnTo s off l k = wrap64 (l + (nlTo s off k : Int))
  | 0 => by simp only [lnTo, nlTo]; rw [show l + ((0 : Nat) : Int) = l by omega, wrap_fits hl]
  | k + 1 => by
    simp only [lnTo, nlTo]
    split
    · rw [lnTo_eq s off hl k, wrap_add]
      congr 1; omega
    · exact lnTo_eq s off hl k

theorem laTo_lt (s : ByteArray) (off : Nat) : ∀ k, laTo s off k = -1 ∨ ((off : Int) ≤ laTo s off k ∧ laTo s off k < off + k)
  | 0 => Or.inl rfl
  | k + 1 => by
    unfold laTo
    split
    · right; omega
    · rcases laTo_lt s off k with h | h
      · exact Or.inl h
      · right; omega

theorem clTo_none (s : ByteArray) (off : Nat) {c : Int} (hc : Fits c) : ∀ k, laTo s off k = -1 → clTo s off c k = wrap64 (c + (k : Int))
  | 0, _ => by simp only [clTo]; rw [show c + ((0 : Nat) : Int) = c by omega, wrap_fits hc]
  | k + 1, h => by
    unfold laTo at h
    unfold clTo
    split at h
    · omega
    · rename_i hn
      rw [if_neg hn, clTo_none s off hc k h, wrap_add]
      congr 1; omega

theorem clTo_some (s : ByteArray) (off : Nat) (c : Int) : ∀ k, off + k ≤ 4194304 → ¬ laTo s off k = -1 → clTo s off c k = ((off + k : Nat) : Int) - laTo s off k - 1
  | 0, _, h => absurd rfl h
  | k + 1, hk, h => by
    unfold laTo at h ⊢
    unfold clTo
    split at h
    · rename_i hn; rw [if_pos hn]; simp only [hn, if_true]; omega
    · rename_i hn
      rw [if_neg hn, if_neg hn, clTo_some s off c k (by omega) h]
      rcases laTo_lt s off k with h1 | h1
      · exact absurd h1 h
      · unfold wrap64; omega

theorem lnTo_fits (s : ByteArray) (off : Nat) {l : Int} (hl : Fits l) : ∀ k, Fits (lnTo s off l k)
  | 0 => hl
  | k + 1 => by
    unfold lnTo
    split
    · unfold Fits wrap64; omega
    · exact lnTo_fits s off hl k

theorem clTo_fits (s : ByteArray) (off : Nat) {c : Int} (hc : Fits c) : ∀ k, Fits (clTo s off c k)
  | 0 => hc
  | k + 1 => by
    unfold clTo
    split
    · unfold Fits; omega
    · unfold Fits wrap64; omega

theorem lnTo_add (s : ByteArray) (off : Nat) (l : Int) (a : Nat) : ∀ b, lnTo s off l (a + b) = lnTo s (off + a) (lnTo s off l a) b
  | 0 => rfl
  | b + 1 => by
    show lnTo s off l (a + b + 1) = _
    simp only [lnTo]
    rw [lnTo_add s off l a b, show off + (a + b) = off + a + b by omega]

theorem clTo_add (s : ByteArray) (off : Nat) (c : Int) (a : Nat) : ∀ b, clTo s off c (a + b) = clTo s (off + a) (clTo s off c a) b
  | 0 => rfl
  | b + 1 => by
    show clTo s off c (a + b + 1) = _
    simp only [clTo]
    rw [clTo_add s off c a b, show off + (a + b) = off + a + b by omega]

/-- The first 'm' bytes of a text. -/
theorem bt_cut (s : ByteArray) {m j : Nat} (hm : m ≤ s.size) (hj : j < m) : bt (s.extract 0 m) j = bt s j := by
  have h1 : j < (s.extract 0 m).size := by simp; omega
  have h2 : j < s.size := by omega
  rw [bt_lt h1, bt_lt h2]
  congr 1
  show (s.extract 0 m).data[j]'h1 = s.data[j]'h2
  simp [ByteArray.data_extract]

theorem lnTo_cut (s : ByteArray) {m off : Nat} (hm : m ≤ s.size) (l : Int) : ∀ k, off + k ≤ m → lnTo (s.extract 0 m) off l k = lnTo s off l k
  | 0, _ => rfl
  | k + 1, h => by
    simp only [lnTo]
    rw [bt_cut s hm (by omega), lnTo_cut s hm l k (by omega)]

theorem clTo_cut (s : ByteArray) {m off : Nat} (hm : m ≤ s.size) (c : Int) : ∀ k, off + k ≤ m → clTo (s.extract 0 m) off c k = clTo s off c k
  | 0, _ => rfl
  | k + 1, h => by
    simp only [clTo]
    rw [bt_cut s hm (by omega), clTo_cut s hm c k (by omega)]

/-- Skipping over the first 'm' bytes stops at 'm': go on from there. -/
theorem Skips.join {s : ByteArray} {m off a b : Nat} (hm : m ≤ s.size) (h1 : Skips (s.extract 0 m) off a) (h2 : Skips s m b) (e : off + a = m) : Skips s off (a + b) := by
  refine ⟨fun j hj => ?_, fun h => ?_⟩
  · by_cases hja : j < a
    · have := h1.pass j hja
      refine ⟨by omega, ?_⟩
      rw [← bt_cut s hm (by omega)]; exact this.2
    · have := h2.pass (j - a) (by omega)
      rw [show m + (j - a) = off + j by omega] at this
      exact this
  · have := h2.stop (by omega)
    rw [show m + b = off + (a + b) by omega] at this
    exact this

/-- .. or ahead of it. -/
theorem Skips.early {s : ByteArray} {m off a : Nat} (hm : m ≤ s.size) (h1 : Skips (s.extract 0 m) off a) (e : off + a < m) : Skips s off a := by
  have hsz : (s.extract 0 m).size = m := by simp; omega
  refine ⟨fun j hj => ?_, fun _ => ?_⟩
  · have := h1.pass j hj
    refine ⟨by omega, ?_⟩
    rw [← bt_cut s hm (by omega)]; exact this.2
  · have := h1.stop (by omega)
    rw [bt_cut s hm e] at this
    exact this

theorem Skips.again {s : ByteArray} {off k : Nat} (h : Skips s off k) : Skips s (off + k) 0 :=
  ⟨fun _ hj => absurd hj (Nat.not_lt_zero _), fun h1 => h.stop h1⟩

theorem Skips.zero_of {s : ByteArray} {off k : Nat} (h : Skips s off k) (hs : s.size ≤ off) : k = 0 := by
  cases k with
  | zero => rfl
  | succ k => have := (h.pass k (by omega)).1; omega

theorem Skips.first {s : ByteArray} {off k : Nat} (h : Skips s off k) (hs : off < s.size) : (decide (0 < k)) = white (bt s off) := by
  cases k with
  | zero => have := h.stop hs; simp only [Nat.add_zero] at this; rw [this]; rfl
  | succ k => have := (h.pass 0 (by omega)).2; simp only [Nat.add_zero] at this; rw [this]; simp

end Go.Proofs.Qxb6617838a.Skip
