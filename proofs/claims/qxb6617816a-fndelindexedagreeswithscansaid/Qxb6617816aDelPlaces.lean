/-
  zzBuildPlaces (17): the map of places.
-/
import Derived.Test.Qxb6617816aDelBuild
namespace Go.Proofs.Qxb6617816a
open Go.RowKit Go.Maps
open DelPlain

/-- The names as a function of the place. -/
def nmOf (l : List ByteArray) (i : Nat) : ByteArray := if h : i < l.length then l[i] else ⟨#[]⟩

theorem nmOf_lt {l : List ByteArray} {i : Nat} (h : i < l.length) : nmOf l i = l[i] := by unfold nmOf; rw [dif_pos h]

theorem apart_range {l : List ByteArray} (hd : distinct l) {n : Nat} (hn : n ≤ l.length) : Apart (nmOf l) (List.range n) := by
  intro p q hp hq e
  simp only [List.length_range] at hp hq
  simp only [List.getElem_range] at e
  rw [nmOf_lt (by omega), nmOf_lt (by omega)] at e
  rcases Nat.lt_trichotomy p q with h | h | h
  · exact absurd e.symm (hd q p (by omega) (by omega) h)
  · exact h
  · exact absurd e (hd p q (by omega) (by omega) h)

/-- The map at block 'B' of the first 'k' names. -/
def Mapped (B : Nat) (w wr : World) (l : List ByteArray) (k : Nat) : Prop :=
  (∃ D, wr.ownsMap Try.prog 9 (plainElem (H := Unit) Try.prog 3) B k D ∧ MapsTo D (nmOf l) (List.range k)) ∧ Below B w wr

set_option maxHeartbeats 800000 in
theorem places17_no (ao : Option Addr) (ca : Nat) (n : Nat) (w : World) :
    Calls Try.prog 17 #[.slice ao n ca, .bool false] w fun e w' => e = .returned (.map none) ∧ w' = w := by
  go_enter Try.func17, Try.ntmps17
  go_wp2
  go_ret
  exact ⟨rfl, rfl⟩

theorem make35 (n : Int) (w : World) : (Instr.makeMap 35 (some (.int .i64 n))).run Try.prog w = .ok (.map (some w.heap.size)) (w.alloc (.map #[] 0)) := by
  simp [Instr.makeMap, run_underlying Try.underlying35, Result.andThen, asInt, asIntOf]

theorem Mapped.start (w : World) (l : List ByteArray) : Mapped w.heap.size w (w.alloc (.map #[] 0)) l 0 :=
  ⟨⟨.map [], World.ownsMap_made _ _ _ _, MapsTo.start _⟩, (Below.refl _ _).alloc (Nat.le_refl _) _⟩

theorem Mapped.push {B : Nat} {w wr w' : World} {l : List ByteArray} {k : Nat} {D : DataW Unit} (hb : Below B w wr) (hB : B ≤ w.heap.size) (hD : MapsTo D (nmOf l) (List.range k)) (hd : distinct l) (hk : k < l.length)
    (hown : w'.ownsMap Try.prog 9 (plainElem (H := Unit) Try.prog 3) B (k + 1) (D.put (key l[k]) (i64d k))) (hg : wr.grownBy w' (some B)) : Mapped B w w' l (k + 1) := by
  have ha := apart_range hd (n := k + 1) hk
  have hp := hD.push k (fun p hp e => by
    have hp' : p < k := by simpa using hp
    have := ha p k (by simp; omega) (by simp) (by simpa using e)
    omega)
  rw [nmOf_lt hk, List.length_range, ← List.range_succ] at hp
  exact ⟨⟨_, hown, hp⟩, hb.grown hg (Nat.le_trans hB hb.size) (by intro j e; cases e; exact Nat.le_refl _)⟩

set_option maxHeartbeats 800000 in
theorem places17 (ao : Option Addr) (ca : Nat) (l : List ByteArray) (w : World) (hl : l.length ≤ 4096) (hS : Strs w ao l) (hd : distinct l) (hsz : ∀ s ∈ l, s.size ≤ maxLen) :
    Calls Try.prog 17 #[.slice ao l.length ca, .bool true] w fun e w' => e = .returned (.map (some w.heap.size)) ∧ Mapped w.heap.size w w' l l.length := by
  have HS := Box.mk hS
  have HD := Box.mk hd
  have HZ := Box.mk hsz
  clear hS hd hsz
  have hmm := make35
  go_enter Try.func17, Try.ntmps17
  go_wp2
  have ST := Box.mk (Mapped.start w l)
  clear hmm
  go_loopw [6] (fun i wr => ∃ k : Nat, k ≤ l.length ∧ i = .int .i64 k ∧ Box (Mapped w.heap.size w wr l k)) (fun i _ => l.length - (intOf i).toNat)
  case atStart => exact ⟨0, Nat.zero_le _, rfl, ST⟩
  case round =>
    clear ST
    obtain ⟨k, hk, rfl, hst⟩ := hrel
    by_cases hlt : k < l.length
    · obtain ⟨⟨⟨D, hown, hD⟩, hb⟩⟩ := hst
      rcases HS.out with rfl | ⟨b, off, rfl, hc⟩
      · simp at hlt
      have hcw := hc k hlt
      have hbw : b < w.heap.size := World.block_lt_of_cell? w _ hcw
      have hck : wr.cell? ⟨b, off + k, none⟩ = some (.string l[k]) := (hb.cell (p := ⟨b, off + k, none⟩) hbw).trans hcw
      have BD := Box.mk hD
      have BB := Box.mk hb
      clear hc hcw hD hb
      go_wp2_with (at_mapUpdate; refine wpList_mapUpdate_own _ rfl _ _ _ 35 rfl 9 3 law9 Try.underlying35 (plainElem (H := Unit) Try.prog 3) w.heap.size k D rfl hown (by unfold maxLen; omega) _ _ _ rfl rfl (key9 (HZ.out _ (List.getElem_mem hlt))) _ [] (elem3 (p := k) (by omega)) ?_; intro w1 hown1 hgrow1)
      go_roundw
      case rel => exact ⟨k + 1, hlt, by go_num, ⟨Mapped.push BB.out (Nat.le_refl _) BD.out HD.out hlt hown1 hgrow1⟩⟩
      case measure => simp [intOf]; omega
    · go_wp2
      go_ret
      have e : k = l.length := by omega
      subst e
      exact ⟨rfl, hst.out⟩
end Go.Proofs.Qxb6617816a
