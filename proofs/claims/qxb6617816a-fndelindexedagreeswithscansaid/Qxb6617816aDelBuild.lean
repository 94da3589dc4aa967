/-
  zzBuildList (16): a new list of fields, each with a copy of its values.
-/
import Derived.Test.Qxb6617816aDelClone
import Derived.Test.Qxb6617816aDelDel
import Derived.Deep.RegionWith
namespace Go.Proofs.Qxb6617816a
open Go.RowKit

theorem info41 : (Try.prog.info? 41).map (fun i => (i.zero, i.size, i.bytes)) = some (some (.agg #[.string ⟨#[]⟩, .slice none 0 0]), 2, 40) := by kernel_rfl

/-- The list at block 'B': the first 'k' fields are laid, 'xs' their values. -/
structure Built (B : Nat) (w wr : World) (l : List ByteArray) (vv : VV) (k : Nat) (xs : List Value) : Prop where
  list : ∃ cur : Array Value, wr.heap[B]? = some (.cells cur 41 (0, 0)) ∧ cur.size = l.length * 2 ∧ ∀ i (h : i < l.length), i < k → cur[i * 2]? = some (.string l[i]) ∧ cur[i * 2 + 1]? = xs[i]?
  len : xs.length = k
  vals : ∀ i, i < k → ∃ a c, xs[i]? = some (.slice a (vAt vv i).2.2.length c) ∧ NewStrs (B + 1) wr a (vAt vv i).2.2
  below : Below B w wr

theorem Built.lt {B : Nat} {w wr : World} {l : List ByteArray} {vv : VV} {k : Nat} {xs : List Value} (h : Built B w wr l vv k xs) : B < wr.heap.size := by
  obtain ⟨cur, hb, _⟩ := h.list; exact lt_of_some hb

theorem heap_cell {w w' : World} {a : Addr} (h : w'.heap[a.block]? = w.heap[a.block]?) : w'.cell? a = w.cell? a := World.cell?_of_block (w := w) h

theorem SA.below {w w' : World} {b off : Nat} {l : List ByteArray} (h : SA w b off l) (hb : Below w.heap.size w w') : SA w' b off l := fun i hi => by
  have h1 := h i hi
  have hlt : b < w.heap.size := World.block_lt_of_cell? w _ h1
  exact (hb.cell (p := ⟨b, off + i, none⟩) hlt).trans h1

theorem Strs.below {w w' : World} {ao : Option Addr} {l : List ByteArray} (h : Strs w ao l) (hb : Below w.heap.size w w') : Strs w' ao l := by
  rcases h with h | ⟨b, off, e, h⟩
  · exact Or.inl h
  · exact Or.inr ⟨b, off, e, h.below hb⟩

theorem Vals.below {w w' : World} {ao : Option Addr} {vv : VV} (h : Vals w ao vv) (hb : Below w.heap.size w w') : Vals w' ao vv := by
  rcases h with h | ⟨b, off, e, h⟩
  · exact Or.inl h
  · refine Or.inr ⟨b, off, e, fun i hi => ?_⟩
    obtain ⟨h1, h2, h3⟩ := h i hi
    have hlt : b < w.heap.size := World.block_lt_of_cell? w _ h1
    exact ⟨(hb.cell (p := ⟨b, off + i, none⟩) hlt).trans h1, h2.below hb, h3⟩

theorem Vals.at {w : World} {ao : Option Addr} {vv : VV} (h : Vals w ao vv) (i : Nat) : Strs w (vAt vv i).1 (vAt vv i).2.2 := by
  unfold vAt
  split
  · rename_i hi
    rcases h with h | ⟨b, off, e, h⟩
    · subst h; simp at hi
    · exact (h i hi).2.1
  · exact Or.inl rfl

theorem Built.cells {B : Nat} {w wr : World} {l : List ByteArray} {vv : VV} {k : Nat} {xs : List Value} (h : Built B w wr l vv k xs) {j : Nat} (hj : j < l.length) : ∃ v0 v1, wr.cell? ⟨B, j * 2, none⟩ = some v0 ∧ wr.cell? ⟨B, j * 2 + 1, none⟩ = some v1 := by
  obtain ⟨cur, hb, hsz, _⟩ := h.list
  rw [cell_block hb, cell_block hb, Array.getElem?_eq_getElem (by omega), Array.getElem?_eq_getElem (by omega)]
  exact ⟨_, _, rfl, rfl⟩

theorem Built.free {B : Nat} {w wr : World} {l : List ByteArray} {vv : VV} {k : Nat} {xs : List Value} (h : Built B w wr l vv k xs) (j : Nat) : wr.frozen? ⟨B, j, none⟩ = false := by
  obtain ⟨cur, hb, _⟩ := h.list
  exact free_block hb

theorem below_undrew {w w' : World} (h : Below w.drew.heap.size w.drew w') : Below w.heap.size w w' := ⟨h.os, h.tape, h.output, h.size, h.block⟩

theorem NewStrs.keep {lo : Nat} {w w' : World} {ao : Option Addr} {l : List ByteArray} (h : NewStrs lo w ao l) (hs : w.heap.size ≤ w'.heap.size) (hb : ∀ k, lo ≤ k → k < w.heap.size → w'.heap[k]? = w.heap[k]?) : NewStrs lo w' ao l := by
  rcases h with h | ⟨b, e, h1, h2, h3⟩
  · exact Or.inl h
  · exact Or.inr ⟨b, e, h1, by omega, fun i hi => (heap_cell (w := w) (a := ⟨b, 0 + i, none⟩) (hb b h1 h2)).trans (h3 i hi)⟩

theorem NewStrs.mono {lo lo' : Nat} {w : World} {ao : Option Addr} {l : List ByteArray} (h : NewStrs lo w ao l) (hl : lo' ≤ lo) : NewStrs lo' w ao l := by
  rcases h with h | ⟨b, e, h1, h2, h3⟩
  · exact Or.inl h
  · exact Or.inr ⟨b, e, by omega, h2, h3⟩

theorem Built.push {B : Nat} {w wr w2 : World} {l : List ByteArray} {vv : VV} {k : Nat} {xs : List Value} (h : Built B w wr l vv k xs) (hk : k < l.length) (hb : Below wr.heap.size wr w2) {a : Option Addr} {c : Nat} (hn : NewStrs wr.heap.size w2 a (vAt vv k).2.2) :
    Built B w ((w2.setCell ⟨B, k * 2, none⟩ (.string l[k])).setCell ⟨B, k * 2 + 1, none⟩ (.slice a (vAt vv k).2.2.length c)) l vv (k + 1) (xs ++ [.slice a (vAt vv k).2.2.length c]) := by
  have hB := h.lt
  have hlen := h.len
  have hs2 := hb.size
  have hkeep : ∀ j, B + 1 ≤ j → ((w2.setCell ⟨B, k * 2, none⟩ (.string l[k])).setCell ⟨B, k * 2 + 1, none⟩ (.slice a (vAt vv k).2.2.length c)).heap[j]? = w2.heap[j]? := fun j hj => by
    rw [Below.heap_setCell _ _ _ _ (by show j ≠ B; omega), Below.heap_setCell _ _ _ _ (by show j ≠ B; omega)]
  have hsz : ((w2.setCell ⟨B, k * 2, none⟩ (.string l[k])).setCell ⟨B, k * 2 + 1, none⟩ (.slice a (vAt vv k).2.2.length c)).heap.size = w2.heap.size := by simp [World.setCell]
  refine ⟨?_, by simp [hlen], ?_, ?_⟩
  · obtain ⟨cur, hc, hcs, hx⟩ := h.list
    have hc2 : w2.heap[B]? = some (.cells cur 41 (0, 0)) := (hb.block B hB).trans hc
    refine ⟨_, heap_setCell_same _ _ _ _ _ _ (heap_setCell_same _ _ _ _ _ _ hc2), by simpa using hcs, fun i hi hik => ?_⟩
    by_cases e : i = k
    · subst e
      rw [Array.getElem?_setIfInBounds_ne (by omega), Array.getElem?_setIfInBounds_self_of_lt (by omega), Array.getElem?_setIfInBounds_self_of_lt (by simp; omega)]
      refine ⟨rfl, ?_⟩
      rw [← hlen]; simp
    · rw [Array.getElem?_setIfInBounds_ne (by omega), Array.getElem?_setIfInBounds_ne (by omega), Array.getElem?_setIfInBounds_ne (by omega), Array.getElem?_setIfInBounds_ne (by omega)]
      rw [List.getElem?_append_left (by omega)]
      exact hx i hi (by omega)
  · intro i hik
    by_cases e : i = k
    · subst e
      refine ⟨a, c, by rw [← hlen]; simp, ?_⟩
      exact (hn.mono (by omega)).keep (by omega) (fun j hj _ => hkeep j hj)
    · obtain ⟨a', c', h1, h2⟩ := h.vals i (by omega)
      refine ⟨a', c', by rw [List.getElem?_append_left (by omega)]; exact h1, ?_⟩
      exact h2.keep (by omega) (fun j hj hjs => (hkeep j hj).trans (hb.block j hjs))
  · exact ((h.below.trans (hb.mono (by omega))).setCell (Nat.le_refl _) _).setCell (Nat.le_refl _) _

set_option maxHeartbeats 1000000 in
theorem build16 (ao bo : Option Addr) (ca cb : Nat) (l : List ByteArray) (vv : VV) (w : World) (hl : l.length ≤ 4096) (hv : vv.length ≤ 4096) (hS : Strs w ao l) (hV : Vals w bo vv) (hvv : ∀ i, (vAt vv i).2.2.length ≤ 65536) :
    Calls Try.prog 16 #[.slice ao l.length ca, .slice bo vv.length cb] w fun e w' => e = .returned (.slice (some ⟨w.heap.size, 0, none⟩) l.length l.length) ∧ ∃ xs, Built w.heap.size w w' l vv l.length xs := by
  obtain ⟨i0, hi, hz0, hz1, hz2⟩ := info_parts info41
  have HS := Box.mk hS
  have HV := Box.mk hV
  clear hS hV
  go_enter Try.func16, Try.ntmps16
  go_wp2_with (at_make; refine wpList_make_full _ rfl _ _ 33 rfl w.heap.size 41 i0 (.agg #[.string ⟨#[]⟩, .slice none 0 0]) 2 Try.underlying33 hi hz0 hz1 .i64 .i64 _ _ l.length rfl rfl rfl rfl (by rw [hz2]; omega) (by unfold maxLen; omega) (Nat.le_refl _) ?_; intro w1 own1 grow1)
  have hb1 : Below w.heap.size w w1 := (Below.refl _ _).grown grow1 (Nat.le_refl _) (by intro k e; cases e)
  have st1 : Built w.heap.size w w1 l vv 0 [] := by
    refine ⟨?_, rfl, fun i h => absurd h (Nat.not_lt_zero _), hb1⟩
    rcases own1.2 with ⟨h, _⟩ | ⟨g, cap, cur, h, _, hh, _, _, hsz, _⟩
    · simp at h
    · simp only [Value.slice.injEq, Option.some.injEq, Addr.mk.injEq, and_true, true_and] at h
      obtain ⟨rfl, rfl⟩ := h
      exact ⟨cur, hh, hsz, fun i _ h => absurd h (Nat.not_lt_zero _)⟩
  have ST := Box.mk st1
  clear own1 grow1 hb1 st1
  go_loopw [6] (fun i wr => ∃ (k : Nat) (xs : List Value), k ≤ l.length ∧ i = .int .i64 k ∧ Box (Built w.heap.size w wr l vv k xs)) (fun i _ => l.length - (intOf i).toNat)
  case atStart => exact ⟨0, [], Nat.zero_le _, rfl, ST⟩
  case round =>
    clear ST
    obtain ⟨k, xs, hk, rfl, hst⟩ := hrel
    by_cases hlt : k < l.length
    · have hB := hst.out.lt
      have hSr := HS.out.below hst.out.below
      have hVr := Box.mk (HV.out.below hst.out.below)
      rcases hSr with rfl | ⟨b, off, rfl, hc⟩
      · simp at hlt
      have hck := hc k hlt
      have hbw : b < wr.heap.size := World.block_lt_of_cell? wr _ hck
      clear hc
      obtain ⟨v0, v1, hd0, hd1⟩ := hst.out.cells hlt
      have hfz := hst.out.free
      have h23 : Box (Calls Try.prog 23 #[.slice bo vv.length cb, .int .i64 k] wr.drew fun e w' => e = .returned (.slice (vAt vv k).1 (vAt vv k).2.2.length (vAt vv k).2.1) ∧ w' = wr.drew) :=
        ⟨valuesAt23 bo cb vv k wr.drew (by unfold maxLen; omega) hVr.out⟩
      have h28 : Box (Calls Try.prog 28 #[.slice (vAt vv k).1 (vAt vv k).2.2.length (vAt vv k).2.1] wr.drew fun e w' => ∃ bo c, e = .returned (.slice bo (vAt vv k).2.2.length c) ∧ NewStrs wr.heap.size w' bo (vAt vv k).2.2 ∧ Below wr.heap.size wr w') :=
        ⟨(clone28 (vAt vv k).1 (vAt vv k).2.1 (vAt vv k).2.2 wr.drew (hvv k) (hVr.out.at k)).mono fun e w' ⟨bo, c, he, hn, hb⟩ => ⟨bo, c, he, hn, below_undrew hb⟩⟩
      have FC : Box (∀ w2, Below wr.heap.size wr w2 → w2.cell? ⟨b, off + k, none⟩ = some (.string l[k]) ∧ w2.cell? ⟨w.heap.size, k * 2, none⟩ = some v0 ∧ w2.cell? ⟨w.heap.size, k * 2 + 1, none⟩ = some v1 ∧ ∀ j, w2.frozen? ⟨w.heap.size, j, none⟩ = false) :=
        ⟨fun w2 h => ⟨(h.cell (p := ⟨b, off + k, none⟩) hbw).trans hck, (h.cell (p := ⟨w.heap.size, k * 2, none⟩) hB).trans hd0, (h.cell (p := ⟨w.heap.size, k * 2 + 1, none⟩) hB).trans hd1, fun j => (h.frozen (p := ⟨w.heap.size, j, none⟩) hB).trans (hfz j)⟩⟩
      go_wp2
      go_region_with (first
        | (go_at_call 23; refine h23.out.mono ?_; rintro e w' ⟨rfl, rfl⟩)
        | (go_at_call 28; refine h28.out.mono ?_; rintro e w2 ⟨bo2, c2, rfl, hnew, hbel⟩; obtain ⟨g0, g1, g2, g3⟩ := FC.out w2 hbel))
      all_goals
        go_wp2
        go_roundw
        case rel => exact ⟨k + 1, _, hlt, by go_num, ⟨hst.out.push hlt hbel hnew⟩⟩
        case measure => simp [intOf]; omega
    · go_wp2
      go_ret
      have e : k = l.length := by omega
      subst e
      exact ⟨rfl, xs, hst.out⟩
end Go.Proofs.Qxb6617816a
