/-
  (*Fields).Del (18): the walks, with a map: the field found at place 'p' of 'q + 1'.
-/
import Derived.Test.Qxb6617816aDelStruck
import Derived.RegionTactic
import Derived.BigRegion
namespace Go.Proofs.Qxb6617816a
open Go.RowKit Go.Maps
open DelPlain


theorem struck_map {w : World} {Fb Lb cap p q : Nat} {n1 : ByteArray} {a1 : Option Addr} {l1 k1 Mb n : Nat} {D : DataW Unit} (h : w.ownsMap Try.prog 9 (plainElem (H := Unit) Try.prog 3) Mb n D) (hF : Mb ≠ Fb) (hL : Mb ≠ Lb) :
    (struck w Fb Lb cap p q n1 a1 l1 k1).ownsMap Try.prog 9 (plainElem (H := Unit) Try.prog 3) Mb n D := by
  unfold struck
  exact ((((h.setCell hL _).setCell hL _).setCell hL _).setCell hL _).setCell hF _

/-- A fact kept from the walk, behind a constructor: nothing unfolds it. -/
structure Box (p : Prop) : Prop where
  out : p

theorem elem3 {p : Nat} (h : p ≤ 4096) : plainElem (H := Unit) Try.prog 3 (.int .i64 (p : Int)) = some (i64d p, []) := plainElem_int Try.underlying3 (WalkArith.wf_i64 (by omega))

theorem grown_undrew {w w' : World} {r : Option Nat} (h : w.drew.grownBy w' r) : w.grownBy w' r := ⟨h.os, h.tape, h.output, h.size, h.block⟩

theorem grown_then {w w1 w2 : World} {r : Option Nat} (h : w.grownBy w1 r) (k : w1.grownBy w2 r) : w.grownBy w2 r :=
  ⟨k.os.trans h.os, k.tape.trans h.tape, k.output.trans h.output, Nat.le_trans h.size k.size, fun i hi hne => (k.block i (Nat.lt_of_lt_of_le hi h.size) hne).trans (h.block i hi hne)⟩

set_option maxHeartbeats 800000 in
theorem core18_mapLast (Fb Lb cap q Mb n : Nat) (D : DataW Unit) (n1 : ByteArray) (a1 : Option Addr) (l1 k1 : Nat) (s : ByteArray) (w : World)
    (hq : q < cap) (hcap : cap ≤ 4096) (hne : ¬ Lb = Fb) (hMF : Mb ≠ Fb) (hML : Mb ≠ Lb) (hs : s.size ≤ maxLen)
    (hown : w.ownsMap Try.prog 9 (plainElem (H := Unit) Try.prog 3) Mb n D)
    (hc0 : w.cell? ⟨Fb, 0, none⟩ = some (.slice (some ⟨Lb, 0, none⟩) (q + 1) cap)) (hc1 : w.cell? ⟨Fb, 1, none⟩ = some (.map (some Mb)))
    (hnl : w.cell? ⟨Lb, q * 2, none⟩ = some (.string n1)) (hvl : w.cell? ⟨Lb, q * 2 + 1, none⟩ = some (.slice a1 l1 k1))
    (fz0 : w.frozen? ⟨Fb, 0, none⟩ = false) (fzl : ∀ j, w.frozen? ⟨Lb, j, none⟩ = false)
    (i29 : Hid (Calls Try.prog 29 #[.pointer (some ⟨Fb, 0, none⟩), .string s] w fun e w' => e = .returned (.int .i64 q) ∧ w' = w)) :
    Calls Try.prog 18 #[.pointer (some ⟨Fb, 0, none⟩), .string s] w fun e w' => e = .returned (.tuple #[]) ∧ (struck w Fb Lb cap q q n1 a1 l1 k1).grownBy w' (some Mb) ∧ w'.ownsMap Try.prog 9 (plainElem (H := Unit) Try.prog 3) Mb n (D.del (key s)) := by
  have q35 : ∀ (w : World) (r : Option Nat), (binOp .neq 35 (.map r) (.map none)).run Try.prog w = .ok (.bool (!r.isNone)) w := fun w r => run_neq_map_nil w _ _ _ r Try.underlying35
  have hO := Hid.mk' (struck_map (p := q) (q := q) (cap := cap) (n1 := n1) (a1 := a1) (l1 := l1) (k1 := k1) hown hMF hML)
  clear hown
  go_enter Try.func18, Try.ntmps18
  go_wp2_with fail
  refine i29.out.mono ?_
  rintro e w' ⟨rfl, rfl⟩
  clear i29
  go_wp2
  go_region
  go_wp2_with (at_delete; refine wpList_delete_own _ rfl _ _ 35 9 rfl 3 law9 Try.underlying35 (plainElem (H := Unit) Try.prog 3) Mb n D rfl (by exact hO.out.drew) _ _ rfl (key9 hs) ?_; intro w1 hown1 hturn1)
  go_end0
  exact ⟨rfl, by unfold struck; exact grown_undrew hturn1.grown, hown1⟩

set_option maxHeartbeats 800000 in
theorem core18_map (Fb Lb cap p q Mb n : Nat) (D : DataW Unit) (n0 n1 : ByteArray) (a0 a1 : Option Addr) (l0 k0 l1 k1 : Nat) (s : ByteArray) (w : World)
    (hq : q < cap) (hcap : cap ≤ 4096) (hpq : p < q) (hne : ¬ Lb = Fb) (hMF : Mb ≠ Fb) (hML : Mb ≠ Lb) (hs : s.size ≤ maxLen) (hs1 : n1.size ≤ maxLen) (hn : n ≤ 100000)
    (hown : w.ownsMap Try.prog 9 (plainElem (H := Unit) Try.prog 3) Mb n D)
    (hc0 : w.cell? ⟨Fb, 0, none⟩ = some (.slice (some ⟨Lb, 0, none⟩) (q + 1) cap)) (hc1 : w.cell? ⟨Fb, 1, none⟩ = some (.map (some Mb)))
    (hnp : w.cell? ⟨Lb, p * 2, none⟩ = some (.string n0)) (hvp : w.cell? ⟨Lb, p * 2 + 1, none⟩ = some (.slice a0 l0 k0))
    (hnl : w.cell? ⟨Lb, q * 2, none⟩ = some (.string n1)) (hvl : w.cell? ⟨Lb, q * 2 + 1, none⟩ = some (.slice a1 l1 k1))
    (fz0 : w.frozen? ⟨Fb, 0, none⟩ = false) (fzl : ∀ j, w.frozen? ⟨Lb, j, none⟩ = false)
    (s0 : (struck w Fb Lb cap p q n1 a1 l1 k1).cell? ⟨Fb, 0, none⟩ = some (.slice (some ⟨Lb, 0, none⟩) q cap)) (s1 : (struck w Fb Lb cap p q n1 a1 l1 k1).cell? ⟨Fb, 1, none⟩ = some (.map (some Mb)))
    (s2 : (struck w Fb Lb cap p q n1 a1 l1 k1).cell? ⟨Lb, p * 2, none⟩ = some (.string n1))
    (i29 : Hid (Calls Try.prog 29 #[.pointer (some ⟨Fb, 0, none⟩), .string s] w fun e w' => e = .returned (.int .i64 p) ∧ w' = w)) :
    Calls Try.prog 18 #[.pointer (some ⟨Fb, 0, none⟩), .string s] w fun e w' => e = .returned (.tuple #[]) ∧ (struck w Fb Lb cap p q n1 a1 l1 k1).grownBy w' (some Mb) ∧ w'.ownsMap Try.prog 9 (plainElem (H := Unit) Try.prog 3) Mb (n + 1) ((D.del (key s)).put (key n1) (i64d p)) := by
  have q35 : ∀ (w : World) (r : Option Nat), (binOp .neq 35 (.map r) (.map none)).run Try.prog w = .ok (.bool (!r.isNone)) w := fun w r => run_neq_map_nil w _ _ _ r Try.underlying35
  have hO := Box.mk (struck_map (p := p) (q := q) (cap := cap) (n1 := n1) (a1 := a1) (l1 := l1) (k1 := k1) hown hMF hML)
  have S0 := Box.mk s0
  have S1 := Box.mk s1
  have S2 := Box.mk s2
  clear hown s0 s1 s2
  go_enter Try.func18, Try.ntmps18
  go_wp2_with fail
  refine i29.out.mono ?_
  rintro e w' ⟨rfl, rfl⟩
  clear i29
  go_wp2
  go_region
  go_wp2_with (at_delete; refine wpList_delete_own _ rfl _ _ 35 9 rfl 3 law9 Try.underlying35 (plainElem (H := Unit) Try.prog 3) Mb n D rfl (by exact hO.out.drew) _ _ rfl (key9 hs) ?_; intro w1 hown1 hturn1)
  have hg := Box.mk (show (struck w' Fb Lb cap p q n1 a1 l1 k1).grownBy w1 (some Mb) from by unfold struck; exact grown_undrew hturn1.grown)
  have d0 := hg.out.cell S0.out (by simp; omega)
  have d1 := hg.out.cell S1.out (by simp; omega)
  have d2 := hg.out.cell S2.out (by simp; omega)
  obtain ⟨w2, hrun, hown2, hgrow2⟩ := World.ownsMap.update (w := w1.drew) (t := 35) (e := 3) hown1.drew law9 Try.underlying35 (by unfold maxLen; omega) (key9 hs1) (elem3 (p := p) (by omega))
  have HO := Box.mk hown2
  have HG := Box.mk hgrow2
  clear hown1 hturn1 S0 S1 S2 hO hown2 hgrow2
  go_region
  go_wp2
  go_end0
  exact ⟨rfl, grown_then hg.out (grown_undrew HG.out), HO.out⟩
end Go.Proofs.Qxb6617816a
