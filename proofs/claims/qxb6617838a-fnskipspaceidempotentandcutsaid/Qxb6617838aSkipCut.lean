/-
  FnSkipSpaceIdempotentAndCut (6): the walk.
-/
import Derived.Test.Qxb6617838aSkipLaw
namespace Go.Proofs.Qxb6617838a
open Go.RowKit
open Skip

set_option maxHeartbeats 400000 in
theorem bound16 (s : ByteArray) (a b c d : Int) (w : World) (hs : s.size ≤ maxLen) :
    Calls Try.prog 16 #[.string s, .int .i64 a, .int .i64 b, .int .i64 c, .int .i64 d] w fun e w' => e = .returned (.bool (decide (s.size ≤ 1048576))) ∧ w' = w := by
  unfold maxLen at hs
  by_cases h1 : s.size ≤ 1048576
  · go_enter Try.func16, Try.ntmps16
    go_wp2
    go_ret
    exact ⟨ret_bool (by simp [h1]), rfl⟩
  · go_enter Try.func16, Try.ntmps16
    go_wp2
    go_ret
    exact ⟨ret_bool (by simp [h1]), rfl⟩

theorem below_step {w w1 w2 : World} (h : Below w.heap.size w w1) (h' : Below w1.heap.size w1 w2) : Below w.heap.size w w2 := h.trans (h'.mono h.size)

set_option maxRecDepth 20000 in
set_option maxHeartbeats 1000000 in
theorem core6a (s : ByteArray) (off m o : Nat) (l c l1 c1 : Int) (w : World) (hs : s.size ≤ 1048576) (hms : m ≤ s.size) (hm : m < off)
    (h16 : Box (Calls Try.prog 16 #[.string s, .int .i64 (off : Int), .int .i64 l, .int .i64 c, .int .i64 (m : Int)] w fun e w' => e = .returned (.bool true) ∧ w' = w))
    (A : Box (∀ w : World, Calls Try.prog 14 #[.string s, .int .i64 (off : Int), .int .i64 l, .int .i64 c] w fun e w' => e = .returned (.tuple #[.int .i64 (o : Int), .int .i64 l1, .int .i64 c1]) ∧ Below w.heap.size w w'))
    (B : Box (∀ w : World, Calls Try.prog 14 #[.string s, .int .i64 (o : Int), .int .i64 l1, .int .i64 c1] w fun e w' => e = .returned (.tuple #[.int .i64 (o : Int), .int .i64 l1, .int .i64 c1]) ∧ Below w.heap.size w w'))
    (E0 : ∀ h : off < s.size, Box (∀ w : World, Calls Try.prog 15 #[.int .u8 (s[off].toNat : Int)] w fun e w' => e = .returned (.bool (decide (off < o))) ∧ w' = w)) :
    Calls Try.prog 6 #[.string s, .int .i64 (off : Int), .int .i64 l, .int .i64 c, .int .i64 (m : Int)] w fun e w' => e = .returned (.bool true) ∧ Below w.heap.size w w' := by
  by_cases hlt : off < s.size
  · have E := E0 hlt
    clear E0
    by_cases hgo : off < o
    · rw [decide_eq_true hgo] at E
      go_enter Try.func6, Try.ntmps6
      go_wp2_with fail
      refine h16.out.mono ?_
      rintro e w0 ⟨rfl, rfl⟩
      go_wp2_with fail
      refine (A.out _).mono ?_
      rintro e w1 ⟨rfl, hb1⟩
      have B1 := Box.mk hb1
      clear hb1
      go_wp2_with fail
      refine (E.out _).mono ?_
      rintro e w1' ⟨rfl, rfl⟩
      go_wp2_with fail
      refine (B.out _).mono ?_
      rintro e w2 ⟨rfl, hb2⟩
      have B2 := Box.mk (below_step B1.out hb2)
      clear hb2
      go_wp2
      go_ret
      exact ⟨rfl, B2.out⟩
    · rw [decide_eq_false hgo] at E
      go_enter Try.func6, Try.ntmps6
      go_wp2_with fail
      refine h16.out.mono ?_
      rintro e w0 ⟨rfl, rfl⟩
      go_wp2_with fail
      refine (A.out _).mono ?_
      rintro e w1 ⟨rfl, hb1⟩
      have B1 := Box.mk hb1
      clear hb1
      go_wp2_with fail
      refine (E.out _).mono ?_
      rintro e w1' ⟨rfl, rfl⟩
      go_wp2_with fail
      refine (B.out _).mono ?_
      rintro e w2 ⟨rfl, hb2⟩
      have B2 := Box.mk (below_step B1.out hb2)
      clear hb2
      go_wp2
      go_ret
      exact ⟨rfl, B2.out⟩
  · clear E0
    go_enter Try.func6, Try.ntmps6
    go_wp2_with fail
    refine h16.out.mono ?_
    rintro e w0 ⟨rfl, rfl⟩
    go_wp2_with fail
    refine (A.out _).mono ?_
    rintro e w1 ⟨rfl, hb1⟩
    have B1 := Box.mk hb1
    clear hb1
    go_wp2_with fail
    refine (B.out _).mono ?_
    rintro e w2 ⟨rfl, hb2⟩
    have B2 := Box.mk (below_step B1.out hb2)
    clear hb2
    go_wp2
    go_ret
    exact ⟨rfl, B2.out⟩

set_option maxRecDepth 20000 in
set_option maxHeartbeats 1000000 in
theorem core6b (s : ByteArray) (off m o : Nat) (l c l1 c1 l2 c2 : Int) (w : World) (hs : s.size ≤ 1048576) (hms : m ≤ s.size) (hm : off ≤ m)
    (h16 : Box (Calls Try.prog 16 #[.string s, .int .i64 (off : Int), .int .i64 l, .int .i64 c, .int .i64 (m : Int)] w fun e w' => e = .returned (.bool true) ∧ w' = w))
    (A : Box (∀ w : World, Calls Try.prog 14 #[.string s, .int .i64 (off : Int), .int .i64 l, .int .i64 c] w fun e w' => e = .returned (.tuple #[.int .i64 (o : Int), .int .i64 l1, .int .i64 c1]) ∧ Below w.heap.size w w'))
    (B : Box (∀ w : World, Calls Try.prog 14 #[.string s, .int .i64 (o : Int), .int .i64 l1, .int .i64 c1] w fun e w' => e = .returned (.tuple #[.int .i64 (o : Int), .int .i64 l1, .int .i64 c1]) ∧ Below w.heap.size w w'))
    (C : Box (∀ w : World, Calls Try.prog 14 #[.string (s.extract 0 m), .int .i64 (off : Int), .int .i64 l, .int .i64 c] w fun e w' => e = .returned (.tuple #[.int .i64 (m : Int), .int .i64 l2, .int .i64 c2]) ∧ Below w.heap.size w w'))
    (D : Box (∀ w : World, Calls Try.prog 14 #[.string s, .int .i64 (m : Int), .int .i64 l2, .int .i64 c2] w fun e w' => e = .returned (.tuple #[.int .i64 (o : Int), .int .i64 l1, .int .i64 c1]) ∧ Below w.heap.size w w'))
    (E0 : ∀ h : off < s.size, Box (∀ w : World, Calls Try.prog 15 #[.int .u8 (s[off].toNat : Int)] w fun e w' => e = .returned (.bool (decide (off < o))) ∧ w' = w)) :
    Calls Try.prog 6 #[.string s, .int .i64 (off : Int), .int .i64 l, .int .i64 c, .int .i64 (m : Int)] w fun e w' => e = .returned (.bool true) ∧ Below w.heap.size w w' := by
  by_cases hlt : off < s.size
  · have E := E0 hlt
    clear E0
    by_cases hgo : off < o
    · rw [decide_eq_true hgo] at E
      go_enter Try.func6, Try.ntmps6
      go_wp2_with fail
      refine h16.out.mono ?_
      rintro e w0 ⟨rfl, rfl⟩
      go_wp2_with fail
      refine (A.out _).mono ?_
      rintro e w1 ⟨rfl, hb1⟩
      have B1 := Box.mk hb1
      clear hb1
      go_wp2_with fail
      refine (E.out _).mono ?_
      rintro e w1' ⟨rfl, rfl⟩
      go_wp2_with fail
      refine (B.out _).mono ?_
      rintro e w2 ⟨rfl, hb2⟩
      have B2 := Box.mk (below_step B1.out hb2)
      clear hb2
      go_wp2_with fail
      refine (C.out _).mono ?_
      rintro e w3 ⟨rfl, hb3⟩
      have B3 := Box.mk (below_step B2.out hb3)
      clear hb3
      go_wp2_with fail
      refine (D.out _).mono ?_
      rintro e w4 ⟨rfl, hb4⟩
      have B4 := Box.mk (below_step B3.out hb4)
      clear hb4
      go_wp2
      go_ret
      exact ⟨rfl, B4.out⟩
    · rw [decide_eq_false hgo] at E
      go_enter Try.func6, Try.ntmps6
      go_wp2_with fail
      refine h16.out.mono ?_
      rintro e w0 ⟨rfl, rfl⟩
      go_wp2_with fail
      refine (A.out _).mono ?_
      rintro e w1 ⟨rfl, hb1⟩
      have B1 := Box.mk hb1
      clear hb1
      go_wp2_with fail
      refine (E.out _).mono ?_
      rintro e w1' ⟨rfl, rfl⟩
      go_wp2_with fail
      refine (B.out _).mono ?_
      rintro e w2 ⟨rfl, hb2⟩
      have B2 := Box.mk (below_step B1.out hb2)
      clear hb2
      go_wp2_with fail
      refine (C.out _).mono ?_
      rintro e w3 ⟨rfl, hb3⟩
      have B3 := Box.mk (below_step B2.out hb3)
      clear hb3
      go_wp2_with fail
      refine (D.out _).mono ?_
      rintro e w4 ⟨rfl, hb4⟩
      have B4 := Box.mk (below_step B3.out hb4)
      clear hb4
      go_wp2
      go_ret
      exact ⟨rfl, B4.out⟩
  · clear E0
    go_enter Try.func6, Try.ntmps6
    go_wp2_with fail
    refine h16.out.mono ?_
    rintro e w0 ⟨rfl, rfl⟩
    go_wp2_with fail
    refine (A.out _).mono ?_
    rintro e w1 ⟨rfl, hb1⟩
    have B1 := Box.mk hb1
    clear hb1
    go_wp2_with fail
    refine (B.out _).mono ?_
    rintro e w2 ⟨rfl, hb2⟩
    have B2 := Box.mk (below_step B1.out hb2)
    clear hb2
    go_wp2_with fail
    refine (C.out _).mono ?_
    rintro e w3 ⟨rfl, hb3⟩
    have B3 := Box.mk (below_step B2.out hb3)
    clear hb3
    go_wp2_with fail
    refine (D.out _).mono ?_
    rintro e w4 ⟨rfl, hb4⟩
    have B4 := Box.mk (below_step B3.out hb4)
    clear hb4
    go_wp2
    go_ret
    exact ⟨rfl, B4.out⟩

set_option maxRecDepth 20000 in
set_option maxHeartbeats 1000000 in
theorem core6c (s : ByteArray) (off m o : Nat) (l c l1 c1 : Int) (w : World) (hs : s.size ≤ 1048576) (hms : m ≤ s.size) (hm : off ≤ m) (hne : ((o : Int) == (m : Int)) = false)
    (h16 : Box (Calls Try.prog 16 #[.string s, .int .i64 (off : Int), .int .i64 l, .int .i64 c, .int .i64 (m : Int)] w fun e w' => e = .returned (.bool true) ∧ w' = w))
    (A : Box (∀ w : World, Calls Try.prog 14 #[.string s, .int .i64 (off : Int), .int .i64 l, .int .i64 c] w fun e w' => e = .returned (.tuple #[.int .i64 (o : Int), .int .i64 l1, .int .i64 c1]) ∧ Below w.heap.size w w'))
    (B : Box (∀ w : World, Calls Try.prog 14 #[.string s, .int .i64 (o : Int), .int .i64 l1, .int .i64 c1] w fun e w' => e = .returned (.tuple #[.int .i64 (o : Int), .int .i64 l1, .int .i64 c1]) ∧ Below w.heap.size w w'))
    (C : Box (∀ w : World, Calls Try.prog 14 #[.string (s.extract 0 m), .int .i64 (off : Int), .int .i64 l, .int .i64 c] w fun e w' => e = .returned (.tuple #[.int .i64 (o : Int), .int .i64 l1, .int .i64 c1]) ∧ Below w.heap.size w w'))
    (E0 : ∀ h : off < s.size, Box (∀ w : World, Calls Try.prog 15 #[.int .u8 (s[off].toNat : Int)] w fun e w' => e = .returned (.bool (decide (off < o))) ∧ w' = w)) :
    Calls Try.prog 6 #[.string s, .int .i64 (off : Int), .int .i64 l, .int .i64 c, .int .i64 (m : Int)] w fun e w' => e = .returned (.bool true) ∧ Below w.heap.size w w' := by
  by_cases hlt : off < s.size
  · have E := E0 hlt
    clear E0
    by_cases hgo : off < o
    · rw [decide_eq_true hgo] at E
      go_enter Try.func6, Try.ntmps6
      go_wp2_with fail
      refine h16.out.mono ?_
      rintro e w0 ⟨rfl, rfl⟩
      go_wp2_with fail
      refine (A.out _).mono ?_
      rintro e w1 ⟨rfl, hb1⟩
      have B1 := Box.mk hb1
      clear hb1
      go_wp2_with fail
      refine (E.out _).mono ?_
      rintro e w1' ⟨rfl, rfl⟩
      go_wp2_with fail
      refine (B.out _).mono ?_
      rintro e w2 ⟨rfl, hb2⟩
      have B2 := Box.mk (below_step B1.out hb2)
      clear hb2
      go_wp2_with fail
      refine (C.out _).mono ?_
      rintro e w3 ⟨rfl, hb3⟩
      have B3 := Box.mk (below_step B2.out hb3)
      clear hb3
      go_wp2
      go_ret
      exact ⟨rfl, B3.out⟩
    · rw [decide_eq_false hgo] at E
      go_enter Try.func6, Try.ntmps6
      go_wp2_with fail
      refine h16.out.mono ?_
      rintro e w0 ⟨rfl, rfl⟩
      go_wp2_with fail
      refine (A.out _).mono ?_
      rintro e w1 ⟨rfl, hb1⟩
      have B1 := Box.mk hb1
      clear hb1
      go_wp2_with fail
      refine (E.out _).mono ?_
      rintro e w1' ⟨rfl, rfl⟩
      go_wp2_with fail
      refine (B.out _).mono ?_
      rintro e w2 ⟨rfl, hb2⟩
      have B2 := Box.mk (below_step B1.out hb2)
      clear hb2
      go_wp2_with fail
      refine (C.out _).mono ?_
      rintro e w3 ⟨rfl, hb3⟩
      have B3 := Box.mk (below_step B2.out hb3)
      clear hb3
      go_wp2
      go_ret
      exact ⟨rfl, B3.out⟩
  · clear E0
    go_enter Try.func6, Try.ntmps6
    go_wp2_with fail
    refine h16.out.mono ?_
    rintro e w0 ⟨rfl, rfl⟩
    go_wp2_with fail
    refine (A.out _).mono ?_
    rintro e w1 ⟨rfl, hb1⟩
    have B1 := Box.mk hb1
    clear hb1
    go_wp2_with fail
    refine (B.out _).mono ?_
    rintro e w2 ⟨rfl, hb2⟩
    have B2 := Box.mk (below_step B1.out hb2)
    clear hb2
    go_wp2_with fail
    refine (C.out _).mono ?_
    rintro e w3 ⟨rfl, hb3⟩
    have B3 := Box.mk (below_step B2.out hb3)
    clear hb3
    go_wp2
    go_ret
    exact ⟨rfl, B3.out⟩

theorem main6 (s : ByteArray) (off m : Nat) (l c : Int) (w : World) (hs : s.size ≤ 1048576) (hoff : off ≤ 9223372036854775807) (hm : m ≤ s.size) :
    Calls Try.prog 6 #[.string s, .int .i64 (off : Int), .int .i64 l, .int .i64 c, .int .i64 (m : Int)] w fun e w' => e = .returned (.bool true) ∧ Below w.heap.size w w' := by
  have h16 := Box.mk (bound16 s off l c m w (by unfold maxLen; omega))
  rw [decide_eq_true hs] at h16
  obtain ⟨k, hk⟩ := skips_exists s (s.size - off) off (Nat.le_refl _)
  have ho : off + k ≤ 9223372036854775807 := by rcases hk.le with h | h <;> omega
  have A := Box.mk (fun w => skip14 s off k l c w (by omega) hoff hk)
  have B := Box.mk (fun w => skip14 s (off + k) 0 (lnTo s off l k) (clTo s off c k) w (by omega) ho hk.again)
  have E0 : ∀ h : off < s.size, Box (∀ w : World, Calls Try.prog 15 #[.int .u8 (s[off].toNat : Int)] w fun e w' => e = .returned (.bool (decide (off < off + k))) ∧ w' = w) := fun h => ⟨fun w => by
    have h1 := blank15 s[off].toNat w
    rw [← bt_lt h, ← hk.first h] at h1
    rw [← bt_lt h, show decide (off < off + k) = decide (0 < k) by congr 1; simp]
    exact h1⟩
  by_cases hmo : m < off
  · exact core6a s off m (off + k) l c _ _ w hs hm hmo h16 A B E0
  · have hsz : (s.extract 0 m).size = m := by simp; omega
    obtain ⟨k', hk'⟩ := skips_exists (s.extract 0 m) ((s.extract 0 m).size - off) off (Nat.le_refl _)
    have C := Box.mk (fun w => skip14 (s.extract 0 m) off k' l c w (by omega) hoff hk')
    have hle : off + k' ≤ m := by rcases hk'.le with h | h <;> omega
    rw [lnTo_cut s hm l k' hle, clTo_cut s hm c k' hle] at C
    by_cases e : off + k' = m
    · obtain ⟨k2, hk2⟩ := skips_exists s (s.size - m) m (Nat.le_refl _)
      have hj := Skips.join hm hk' hk2 e
      have ek := hk.unique hj
      have D := Box.mk (fun w => skip14 s m k2 (lnTo s off l k') (clTo s off c k') w (by omega) (by omega) hk2)
      have e1 : lnTo s m (lnTo s off l k') k2 = lnTo s off l k := by rw [ek, lnTo_add, e]
      have e2 : clTo s m (clTo s off c k') k2 = clTo s off c k := by rw [ek, clTo_add, e]
      rw [e1, e2, show m + k2 = off + k by omega] at D
      rw [e] at C
      exact core6b s off m (off + k) l c _ _ _ _ w hs hm (by omega) h16 A B C D E0
    · have hj := Skips.early hm hk' (by omega)
      have ek := hk.unique hj
      rw [← ek] at C
      exact core6c s off m (off + k) l c _ _ w hs hm (by omega) (by simp; omega) h16 A B C E0

theorem walk6 (s : ByteArray) (off l c m : Int) (w : World) (hs : s.size ≤ maxLen) (ho : Fits off) (hm : Fits m) :
    Calls Try.prog 6 #[.string s, .int .i64 off, .int .i64 l, .int .i64 c, .int .i64 m] w fun e w' => e = .returned (.bool true) ∧ Below w.heap.size w w' := by
  have h16 := Box.mk (bound16 s off l c m w hs)
  by_cases h1 : s.size ≤ 1048576
  · by_cases h2 : off < 0
    · rw [decide_eq_true h1] at h16
      go_enter Try.func6, Try.ntmps6
      go_wp2_with fail
      refine h16.out.mono ?_
      rintro e w' ⟨rfl, rfl⟩
      go_wp2
      go_ret
      exact ⟨rfl, Below.refl _ _⟩
    · by_cases h3 : m < 0
      · rw [decide_eq_true h1] at h16
        go_enter Try.func6, Try.ntmps6
        go_wp2_with fail
        refine h16.out.mono ?_
        rintro e w' ⟨rfl, rfl⟩
        go_wp2
        go_ret
        exact ⟨rfl, Below.refl _ _⟩
      · by_cases h4 : (s.size : Int) < m
        · rw [decide_eq_true h1] at h16
          go_enter Try.func6, Try.ntmps6
          go_wp2_with fail
          refine h16.out.mono ?_
          rintro e w' ⟨rfl, rfl⟩
          go_wp2
          go_ret
          exact ⟨rfl, Below.refl _ _⟩
        · obtain ⟨n, rfl⟩ : ∃ n : Nat, off = (n : Int) := ⟨off.toNat, by omega⟩
          obtain ⟨m', rfl⟩ : ∃ n : Nat, m = (n : Int) := ⟨m.toNat, by omega⟩
          exact main6 s n m' l c w h1 (by have := ho.2; omega) (by omega)
  · rw [decide_eq_false h1] at h16
    go_enter Try.func6, Try.ntmps6
    go_wp2_with fail
    refine h16.out.mono ?_
    rintro e w' ⟨rfl, rfl⟩
    go_wp2
    go_ret
    exact ⟨rfl, Below.refl _ _⟩
end Go.Proofs.Qxb6617838a
