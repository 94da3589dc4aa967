/-
  zzCloneStrings (28): a new row of the same strings.
-/
import Derived.Test.Qxb6617816aDelWithin
namespace Go.Proofs.Qxb6617816a
open Go.RowKit

theorem info9 : (Try.prog.info? 9).map (fun i => (i.zero, i.size, i.bytes)) = some (some (.string ⟨#[]⟩), 1, 16) := by kernel_rfl

/-- Strings in a row of the call's own: from block 'lo' on. -/
def NewStrs (lo : Nat) (w : World) (ao : Option Addr) (l : List ByteArray) : Prop := l = [] ∨ ∃ b, ao = some ⟨b, 0, none⟩ ∧ lo ≤ b ∧ b < w.heap.size ∧ SA w b 0 l

/-- The row at block 'B': the first 'k' strings are laid. -/
def Row (B : Nat) (w wr : World) (l : List ByteArray) (k : Nat) : Prop :=
  (∃ xs, wr.ownsRow B 9 1 (.slice (some ⟨B, 0, none⟩) l.length l.length) l.length xs ∧ ∀ j (h : j < l.length), j < k → xs[j]? = some (.string l[j])) ∧ Below B w wr

theorem Row.cell {B : Nat} {w wr : World} {l : List ByteArray} {k : Nat} (h : Row B w wr l k) (hk : k < l.length) : ∃ v, wr.cell? ⟨B, k, none⟩ = some v := by
  obtain ⟨⟨xs, own, _⟩, _⟩ := h
  have hl := own.1
  rw [own.cellAt k (by omega), List.getElem?_eq_getElem (by omega)]
  exact ⟨_, rfl⟩

theorem Row.free {B : Nat} {w wr : World} {l : List ByteArray} {k : Nat} (h : Row B w wr l k) (j : Nat) : wr.frozen? ⟨B, j, none⟩ = false := by
  obtain ⟨⟨xs, own, _⟩, _⟩ := h
  exact own.frozenAt j

theorem Row.store {B : Nat} {w wr : World} {l : List ByteArray} {k : Nat} (h : Row B w wr l k) (hk : k < l.length) : Row B w (wr.setCell ⟨B, k, none⟩ (.string l[k])) l (k + 1) := by
  obtain ⟨⟨xs, own, hx⟩, hb⟩ := h
  have hl := own.1
  refine ⟨⟨xs.set k (.string l[k]), (own.stored k _).1, fun j h hj => ?_⟩, hb.setCell (Nat.le_refl _) _⟩
  rw [List.getElem?_set]
  split
  · rename_i e; subst e; rw [if_pos (by omega)]
  · rename_i e; exact hx j h (by omega)

theorem Row.new {B : Nat} {w wr : World} {l : List ByteArray} {k : Nat} (h : Row B w wr l k) (hk : l.length ≤ k) : NewStrs B wr (some ⟨B, 0, none⟩) l := by
  obtain ⟨⟨xs, own, hx⟩, hb⟩ := h
  refine Or.inr ⟨B, rfl, Nat.le_refl _, (own.lt B rfl).2, fun j hj => ?_⟩
  rw [Nat.zero_add, own.cellAt j (by omega)]
  exact hx j hj (by omega)

set_option maxHeartbeats 800000 in
theorem clone28 (ao : Option Addr) (cap : Nat) (l : List ByteArray) (w : World) (hl : l.length ≤ 65536) (hS : Strs w ao l) :
    Calls Try.prog 28 #[.slice ao l.length cap] w fun e w' => ∃ bo c, e = .returned (.slice bo l.length c) ∧ NewStrs w.heap.size w' bo l ∧ Below w.heap.size w w' := by
  have q26 : ∀ (w : World) (a : Option Addr) (n c : Nat), (binOp .eql 26 (.slice a n c) (.slice none 0 0)).run Try.prog w = .ok (.bool a.isNone) w := fun w a n c => Lib.run_eql_slice_nil w _ _ a n c 0 0 Try.underlying26
  cases ao with
  | none =>
    have e : l = [] := by
      rcases hS with h | ⟨b, off, h, _⟩
      · exact h
      · cases h
    subst e
    go_enter Try.func28, Try.ntmps28
    go_wp2
    go_ret
    exact ⟨none, 0, rfl, Or.inl rfl, Below.refl _ _⟩
  | some x =>
    obtain ⟨i0, hi, hz0, hz1, hz2⟩ := info_parts info9
    have HS := Hid.mk' hS
    clear hS
    go_enter Try.func28, Try.ntmps28
    go_wp2_with (at_make; refine wpList_make_full _ rfl _ _ 26 rfl w.heap.size 9 i0 (.string ⟨#[]⟩) 1 Try.underlying26 hi hz0 hz1 .i64 .i64 _ _ l.length rfl rfl rfl rfl (by rw [hz2]; omega) (by unfold maxLen; omega) (Nat.le_refl _) ?_; intro w1 own1 grow1)
    have hb1 : Below w.heap.size w w1 := (Below.refl _ _).grown grow1 (Nat.le_refl _) (by intro k e; cases e)
    have row1 : Row w.heap.size w w1 l 0 := ⟨⟨_, own1, fun j _ h => absurd h (Nat.not_lt_zero _)⟩, hb1⟩
    clear own1 grow1 hb1
    go_loopw [4] (fun i wr => ∃ k : Nat, k ≤ l.length ∧ i = .int .i64 k ∧ Row w.heap.size w wr l k) (fun i _ => l.length - (intOf i).toNat)
    case atStart => exact ⟨0, Nat.zero_le _, rfl, row1⟩
    case round =>
      clear row1
      obtain ⟨k, hk, rfl, hrow⟩ := hrel
      by_cases hlt : k < l.length
      · rcases HS.out with rfl | ⟨b, off, hx, hc⟩
        · simp at hlt
        cases hx
        have hcw := hc k hlt
        have hbw : b < w.heap.size := World.block_lt_of_cell? w _ hcw
        have hck : wr.cell? ⟨b, off + k, none⟩ = some (.string l[k]) := (hrow.2.cell (p := ⟨b, off + k, none⟩) hbw).trans hcw
        obtain ⟨v0, hd⟩ := hrow.cell hlt
        have hfz := hrow.free k
        clear hc hcw
        go_wp2
        go_roundw
        case rel => exact ⟨k + 1, hlt, by go_num, hrow.store hlt⟩
        case measure => simp [intOf]; omega
      · go_wp2
        go_ret
        exact ⟨_, _, rfl, hrow.new (by omega), hrow.2⟩
end Go.Proofs.Qxb6617816a
