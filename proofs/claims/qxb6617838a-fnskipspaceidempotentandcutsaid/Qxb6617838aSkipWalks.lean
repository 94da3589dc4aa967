/-
  THE WALKS of skipSpace (23), ZZSkipSpace (14), zzIsBlank (15).
-/
import Derived.Test.Qxb6617838aFoldWalks
import Derived.Test.Qxb6617838aSkip
import Derived.RegionTactic
namespace Go.Proofs.Qxb6617838a
open Go.RowKit
open Skip

set_option maxHeartbeats 400000 in
theorem blank15 (n : Nat) (w : World) :
    Calls Try.prog 15 #[.int .u8 (n : Int)] w fun e w' => e = .returned (.bool (white n)) ∧ w' = w := by
  by_cases h1 : n = 32
  · subst h1
    go_enter Try.func15, Try.ntmps15
    go_wp2
    go_ret
    exact ⟨rfl, rfl⟩
  · have e1 : ((n : Int) == 32) = false := by simp; omega
    by_cases h2 : n = 9
    · subst h2
      go_enter Try.func15, Try.ntmps15
      go_wp2
      go_ret
      exact ⟨rfl, rfl⟩
    · have e2 : ((n : Int) == 9) = false := by simp; omega
      by_cases h3 : n = 13
      · subst h3
        go_enter Try.func15, Try.ntmps15
        go_wp2
        go_ret
        exact ⟨rfl, rfl⟩
      · have e3 : ((n : Int) == 13) = false := by simp; omega
        by_cases h4 : n = 10
        · subst h4
          go_enter Try.func15, Try.ntmps15
          go_wp2
          go_ret
          exact ⟨rfl, rfl⟩
        · have e4 : ((n : Int) == 10) = false := by simp; omega
          go_enter Try.func15, Try.ntmps15
          go_wp2
          go_ret
          exact ⟨ret_bool (by unfold white; simp [h1, h2, h3, h4]; try omega), rfl⟩

/-- A lexer at block 'B'. -/
def Lx (B : Nat) (s : ByteArray) (o : Nat) (l c : Int) (wr : World) : Prop := wr.heap[B]? = some (.cells #[.string s, .int .i64 (o : Int), .int .i64 l, .int .i64 c] 52 (0, 0))

theorem cell_block {w : World} {b j : Nat} {cur : Array Value} {t : TypeId} {fz : Nat × Nat} (h : w.heap[b]? = some (.cells cur t fz)) : w.cell? ⟨b, j, none⟩ = cur[j]? := by
  simp [World.cell?, h]
theorem free_block {w : World} {b j : Nat} {cur : Array Value} {t : TypeId} (h : w.heap[b]? = some (.cells cur t (0, 0))) : w.frozen? ⟨b, j, none⟩ = false := by
  simp [World.frozen?, h]

/-- Where a lexer stands. -/
def offAt (B : Nat) (wr : World) : Nat := (intOf ((wr.cell? ⟨B, 1, none⟩).getD undef)).toNat

theorem Lx.off {B : Nat} {s : ByteArray} {o : Nat} {l c : Int} {wr : World} (h : Lx B s o l c wr) : offAt B wr = o := by
  unfold offAt; rw [cell_block h]; simp [intOf]

theorem Lx.col {B : Nat} {s : ByteArray} {o : Nat} {l c : Int} {wr : World} (h : Lx B s o l c wr) : Lx B s (o + 1) l (wrap64 (c + 1)) ((wr.setCell ⟨B, 3, none⟩ (.int .i64 (wrap64 (c + 1)))).setCell ⟨B, 1, none⟩ (.int .i64 ((o : Int) + 1))) := by
  have h1 := heap_setCell_same _ _ 1 _ _ (.int .i64 ((o : Int) + 1)) (heap_setCell_same _ _ 3 _ _ (.int .i64 (wrap64 (c + 1))) h)
  exact h1

theorem Lx.line {B : Nat} {s : ByteArray} {o : Nat} {l c : Int} {wr : World} (h : Lx B s o l c wr) : Lx B s (o + 1) (wrap64 (l + 1)) 0 (((wr.setCell ⟨B, 2, none⟩ (.int .i64 (wrap64 (l + 1)))).setCell ⟨B, 3, none⟩ (.int .i64 0)).setCell ⟨B, 1, none⟩ (.int .i64 ((o : Int) + 1))) := by
  have h1 := heap_setCell_same _ _ 1 _ _ (.int .i64 ((o : Int) + 1)) (heap_setCell_same _ _ 3 _ _ (.int .i64 0) (heap_setCell_same _ _ 2 _ _ (.int .i64 (wrap64 (l + 1))) h))
  exact h1

theorem lx_line {B : Nat} {s : ByteArray} {off j o : Nat} {l c l1 c1 : Int} {wr : World} (h : Lx B s o l1 c1 wr) (ho : o = off + j) (hl : l1 = lnTo s off l j) (_hc : c1 = clTo s off c j) (h10 : bt s (off + j) = 10) :
    Lx B s (off + (j + 1)) (lnTo s off l (j + 1)) (clTo s off c (j + 1)) (((wr.setCell ⟨B, 2, none⟩ (.int .i64 (wrap64 (l1 + 1)))).setCell ⟨B, 3, none⟩ (.int .i64 0)).setCell ⟨B, 1, none⟩ (.int .i64 ((o : Int) + 1))) := by
  have h1 := h.line
  unfold lnTo clTo
  rw [if_pos h10, if_pos h10, ← hl, show off + (j + 1) = o + 1 by omega]
  exact h1

theorem lx_col {B : Nat} {s : ByteArray} {off j o : Nat} {l c l1 c1 : Int} {wr : World} (h : Lx B s o l1 c1 wr) (ho : o = off + j) (hl : l1 = lnTo s off l j) (hc : c1 = clTo s off c j) (h10 : ¬ bt s (off + j) = 10) :
    Lx B s (off + (j + 1)) (lnTo s off l (j + 1)) (clTo s off c (j + 1)) ((wr.setCell ⟨B, 3, none⟩ (.int .i64 (wrap64 (c1 + 1)))).setCell ⟨B, 1, none⟩ (.int .i64 ((o : Int) + 1))) := by
  have h1 := h.col
  unfold lnTo clTo
  rw [if_neg h10, if_neg h10, ← hl, ← hc, show off + (j + 1) = o + 1 by omega]
  exact h1

theorem Lx.drewN {B : Nat} {s : ByteArray} {o : Nat} {l c : Int} {wr : World} (h : Lx B s o l c wr) (n : Nat) : Lx B s o l c (wr.drewN n) := h
theorem below_dn {B : Nat} {w wr : World} (h : Below B w wr) (n : Nat) : Below B w (wr.drewN n) := ⟨h.os, h.tape, h.output, h.size, h.block⟩
theorem below_two {B : Nat} {w wr : World} (h : Below B w wr) {i1 i2 : Nat} {v1 v2 : Value} : Below B w ((wr.setCell ⟨B, i1, none⟩ v1).setCell ⟨B, i2, none⟩ v2) :=
  (h.setCell (p := ⟨B, i1, none⟩) (Nat.le_refl _) v1).setCell (p := ⟨B, i2, none⟩) (Nat.le_refl _) v2
theorem below_three {B : Nat} {w wr : World} (h : Below B w wr) {i1 i2 i3 : Nat} {v1 v2 v3 : Value} : Below B w (((wr.setCell ⟨B, i1, none⟩ v1).setCell ⟨B, i2, none⟩ v2).setCell ⟨B, i3, none⟩ v3) :=
  below_two (h.setCell (p := ⟨B, i1, none⟩) (Nat.le_refl _) v1)

set_option maxHeartbeats 800000 in
theorem skip23 (s : ByteArray) (B off k : Nat) (l c : Int) (w : World) (hs : s.size ≤ 4194304) (hoff : off ≤ 9223372036854775807) (hk : Skips s off k) (hL : Lx B s off l c w) :
    Calls Try.prog 23 #[.pointer (some ⟨B, 0, none⟩)] w fun e w' => e = .returned (.tuple #[]) ∧ Lx B s (off + k) (lnTo s off l k) (clTo s off c k) w' ∧ Below B w w' := by
  have HK := Box.mk hk
  have L0 := Box.mk hL
  clear hk hL
  go_enter Try.func23, Try.ntmps23
  go_wp2
  go_loopw [2] (fun _ wr => ∃ j : Nat, j ≤ k ∧ Box (Lx B s (off + j) (lnTo s off l j) (clTo s off c j) wr) ∧ Box (Below B w wr)) (fun _ wr => off + k + 1 - offAt B wr)
  case atStart => exact ⟨0, Nat.zero_le _, L0, ⟨Below.refl _ _⟩⟩
  case round =>
    clear L0
    obtain ⟨j, hj, hlx, hbl⟩ := hrel
    obtain ⟨o, ho⟩ : ∃ o, o = off + j := ⟨_, rfl⟩
    obtain ⟨l1, hl1⟩ : ∃ l1, l1 = lnTo s off l j := ⟨_, rfl⟩
    obtain ⟨c1, hc1⟩ : ∃ c1, c1 = clTo s off c j := ⟨_, rfl⟩
    rw [← ho, ← hl1, ← hc1] at hlx
    have HO := Box.mk ho
    have HL := Box.mk hl1
    have HC := Box.mk hc1
    have hoo : o ≤ 9223372036854775807 := by
      rcases HK.out.le with h | h <;> omega
    clear ho hl1 hc1
    have g0 : wr.cell? ⟨B, 0, none⟩ = some (.string s) := (cell_block (j := 0) hlx.out).trans rfl
    have g1 : wr.cell? ⟨B, 1, none⟩ = some (.int .i64 (o : Int)) := (cell_block (j := 1) hlx.out).trans rfl
    have g2 : wr.cell? ⟨B, 2, none⟩ = some (.int .i64 l1) := (cell_block (j := 2) hlx.out).trans rfl
    have g3 : wr.cell? ⟨B, 3, none⟩ = some (.int .i64 c1) := (cell_block (j := 3) hlx.out).trans rfl
    have hfz : ∀ i, wr.frozen? ⟨B, i, none⟩ = false := fun i => free_block hlx.out
    by_cases hjk : j < k
    · obtain ⟨hlt, hw⟩ := HK.out.pass j hjk
      rw [← HO.out] at hlt hw
      rw [bt_lt hlt] at hw
      have hlt2 : (o : Int) < (s.size : Int) := by omega
      by_cases h10 : s[o].toNat = 10
      · have e1 : ((s[o].toNat : Int) == 32) = false := by simp; omega
        have e2 : ((s[o].toNat : Int) == 9) = false := by simp; omega
        have e3 : ((s[o].toNat : Int) == 13) = false := by simp; omega
        have e4 : ((s[o].toNat : Int) == 10) = true := by simp; omega
        have H10 := Box.mk (show bt s (off + j) = 10 from by rw [← HO.out, bt_lt hlt]; exact h10)
        clear h10 hw
        go_wp2
        go_quiet (fail)
        go_wp2
        go_quiet (fail)
        go_wp2
        have hx := Box.mk (fun n => lx_line (hlx.out.drewN n) HO.out HL.out HC.out H10.out)
        go_roundw
        case rel => exact ⟨j + 1, hjk, ⟨hx.out _⟩, ⟨below_three (below_dn hbl.out _)⟩⟩
        case measure => rw [(hx.out _).off, hlx.out.off, HO.out]; omega
      · have hor : (((s[o].toNat : Int) == 32) = true) ∨ (((s[o].toNat : Int) == 32) = false ∧ ((s[o].toNat : Int) == 9) = true) ∨ (((s[o].toNat : Int) == 32) = false ∧ ((s[o].toNat : Int) == 9) = false ∧ ((s[o].toNat : Int) == 13) = true) := by
          have := white_iff.1 hw
          simp; omega
        have H10 := Box.mk (show ¬ bt s (off + j) = 10 from by rw [← HO.out, bt_lt hlt]; exact h10)
        clear h10 hw
        rcases hor with e1 | ⟨e1, e2⟩ | ⟨e1, e2, e3⟩
        all_goals
          go_wp2
          go_quiet (fail)
          go_wp2
          go_quiet (fail)
          go_wp2
          have hx := Box.mk (fun n => lx_col (hlx.out.drewN n) HO.out HL.out HC.out H10.out)
          go_roundw
          case rel => exact ⟨j + 1, hjk, ⟨hx.out _⟩, ⟨below_two (below_dn hbl.out _)⟩⟩
          case measure => rw [(hx.out _).off, hlx.out.off, HO.out]; omega
    · have ek : j = k := by omega
      subst ek
      by_cases hlt : o < s.size
      · have hw := HK.out.stop (by rw [← HO.out]; exact hlt)
        rw [← HO.out, bt_lt hlt] at hw
        have hlt2 : (o : Int) < (s.size : Int) := by omega
        have hnw : ¬ (s[o].toNat = 32 ∨ s[o].toNat = 9 ∨ s[o].toNat = 13 ∨ s[o].toNat = 10) := fun h => by rw [white_iff.2 h] at hw; cases hw
        have e1 : ((s[o].toNat : Int) == 32) = false := by simp; omega
        have e2 : ((s[o].toNat : Int) == 9) = false := by simp; omega
        have e3 : ((s[o].toNat : Int) == 13) = false := by simp; omega
        have e4 : ((s[o].toNat : Int) == 10) = false := by simp; omega
        clear hw hnw
        go_wp2
        go_quiet (fail)
        go_wp2
        go_quiet (fail)
        go_wp2
        refine bodyPost_ret (results_none rfl _ _ _) rfl ?_
        exact ⟨rfl, by rw [← HO.out, ← HL.out, ← HC.out]; exact hlx.out.drewN _, below_dn hbl.out _⟩
      · have hlt2 : ¬ (o : Int) < (s.size : Int) := by omega
        go_wp2
        go_quiet (fail)
        go_wp2
        go_end0
        exact ⟨rfl, by rw [← HO.out, ← HL.out, ← HC.out]; exact hlx.out.drewN _, below_dn hbl.out _⟩

set_option maxHeartbeats 800000 in
theorem skip14 (s : ByteArray) (off k : Nat) (l c : Int) (w : World) (hs : s.size ≤ 4194304) (hoff : off ≤ 9223372036854775807) (hk : Skips s off k) :
    Calls Try.prog 14 #[.string s, .int .i64 (off : Int), .int .i64 l, .int .i64 c] w fun e w' => e = .returned (.tuple #[.int .i64 ((off + k : Nat) : Int), .int .i64 (lnTo s off l k), .int .i64 (clTo s off c k)]) ∧ Below w.heap.size w w' := by
  have HK := Box.mk hk
  clear hk
  obtain ⟨o, ho⟩ : ∃ o, o = off + k := ⟨_, rfl⟩
  obtain ⟨l1, hl1⟩ : ∃ l1, l1 = lnTo s off l k := ⟨_, rfl⟩
  obtain ⟨c1, hc1⟩ : ∃ c1, c1 = clTo s off c k := ⟨_, rfl⟩
  rw [← ho, ← hl1, ← hc1]
  have HO := Box.mk ho
  have HL := Box.mk hl1
  have HC := Box.mk hc1
  clear ho hl1 hc1
  have L0 := Box.mk (show Lx w.heap.size s off l c (w.alloc (.cells #[.string s, .int .i64 (off : Int), .int .i64 l, .int .i64 c] 52)) from heap_alloc_new w _)
  go_enter Try.func14, Try.ntmps14
  go_wp2_with fail
  refine (skip23 s w.heap.size off k l c _ hs hoff HK.out L0.out).mono ?_
  rintro e w1 ⟨rfl, hx, hb⟩
  rw [← HO.out, ← HL.out, ← HC.out] at hx
  have HB := Box.mk (((Below.refl w.heap.size w).alloc (Nat.le_refl _) _).trans hb)
  clear hb L0
  have g1 : w1.cell? ⟨w.heap.size, 1, none⟩ = some (.int .i64 (o : Int)) := (cell_block (j := 1) hx).trans rfl
  have g2 : w1.cell? ⟨w.heap.size, 2, none⟩ = some (.int .i64 l1) := (cell_block (j := 2) hx).trans rfl
  have g3 : w1.cell? ⟨w.heap.size, 3, none⟩ = some (.int .i64 c1) := (cell_block (j := 3) hx).trans rfl
  clear hx
  go_wp2
  go_quiet (fail)
  go_wp2
  go_ret3
  exact ⟨rfl, below_dn HB.out _⟩
end Go.Proofs.Qxb6617838a
