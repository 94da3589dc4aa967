/-
  FnEqualFoldASCIICutSymmetryAndCase (7): the walk.
-/
import Derived.Test.Qxb6617838aFoldMem
namespace Go.Proofs.Qxb6617838a
open Go.RowKit
open Plain

set_option maxHeartbeats 400000 in
theorem fold18 (s t : ByteArray) (w : World) (hs : s.size ≤ maxLen) :
    Calls Try.prog 18 #[.string s, .string t] w fun e w' => e = .returned (.bool (eqf s.data.toList t.data.toList)) ∧ ∃ n, w' = w.drewN n := by
  have h24 := Box.mk (fold24 s t w hs)
  go_enter Try.func18, Try.ntmps18
  go_wp2_with fail
  refine h24.out.mono ?_
  rintro e w' ⟨rfl, hw⟩
  have HW := Box.mk hw
  clear hw
  go_wp2
  go_ret
  exact ⟨rfl, HW.out⟩

theorem below_of_drewN {w w' : World} (h : ∃ n, w' = w.drewN n) : Below w.heap.size w w' := by
  obtain ⟨n, rfl⟩ := h
  exact ⟨rfl, rfl, rfl, Nat.le_refl _, fun _ _ => rfl⟩

theorem fold18b (s t : ByteArray) (w : World) (hs : s.size ≤ maxLen) :
    Calls Try.prog 18 #[.string s, .string t] w fun e w' => e = .returned (.bool (eqf s.data.toList t.data.toList)) ∧ Below w.heap.size w w' :=
  (fold18 s t w hs).mono fun _ _ h => ⟨h.1, below_of_drewN h.2⟩

theorem below_next {w w1 w2 : World} (h : Below w.heap.size w w1) (h' : Below w1.heap.size w1 w2) : Below w.heap.size w w2 := h.trans (h'.mono h.size)

theorem below_draws {B : Nat} {w wr : World} (h : Below B w wr) (n : Nat) : Below B w (wr.drewN n) := ⟨h.os, h.tape, h.output, h.size, h.block⟩

set_option maxHeartbeats 400000 in
theorem bound17 (a b : ByteArray) (i : Int) (w : World) (ha : a.size ≤ maxLen) (hb : b.size ≤ maxLen) :
    Calls Try.prog 17 #[.string a, .string b, .int .i64 i] w fun e w' => e = .returned (.bool (decide (a.size + b.size ≤ 1048576))) ∧ w' = w := by
  unfold maxLen at ha hb
  by_cases h1 : a.size ≤ 1048576
  · by_cases h2 : b.size ≤ 1048576
    · by_cases h3 : a.size + b.size ≤ 1048576
      · go_enter Try.func17, Try.ntmps17
        go_wp2
        go_ret
        exact ⟨ret_bool (by simp [h3]), rfl⟩
      · go_enter Try.func17, Try.ntmps17
        go_wp2
        go_ret
        exact ⟨ret_bool (by simp [h3]), rfl⟩
    · go_enter Try.func17, Try.ntmps17
      go_wp2
      go_ret
      exact ⟨ret_bool (by simp; omega), rfl⟩
  · go_enter Try.func17, Try.ntmps17
    go_wp2
    go_ret
    exact ⟨ret_bool (by simp; omega), rfl⟩

set_option maxRecDepth 20000 in
set_option maxHeartbeats 1600000 in
theorem core7 (s t q : ByteArray) (i : Nat) (be af : Bool) (w : World) (hs : s.size ≤ 524288) (ht : t.size ≤ 524288) (his : i ≤ s.size) (hit : i ≤ t.size)
    (h17 : Box (Calls Try.prog 17 #[.string s, .string t, .int .i64 (i : Int)] w fun e w' => e = .returned (.bool true) ∧ w' = w))
    (F1 : Box (∀ w : World, Calls Try.prog 18 #[.string s, .string t] w fun e w' => e = .returned (.bool (be && af)) ∧ Below w.heap.size w w'))
    (F2 : Box (∀ w : World, Calls Try.prog 18 #[.string (s.extract 0 i), .string (t.extract 0 i)] w fun e w' => e = .returned (.bool be) ∧ ∃ n, w' = w.drewN n))
    (F3 : Box (∀ w : World, Calls Try.prog 18 #[.string (s.extract i s.size), .string (t.extract i t.size)] w fun e w' => e = .returned (.bool af) ∧ ∃ n, w' = w.drewN n))
    (F4 : Box (∀ w : World, Calls Try.prog 18 #[.string t, .string s] w fun e w' => e = .returned (.bool (be && af)) ∧ Below w.heap.size w w'))
    (G : Box (∀ w : World, Calls Try.prog 19 #[.string s] w fun e w' => e = .returned (.string q) ∧ Below w.heap.size w w'))
    (F5 : Box (∀ w : World, Calls Try.prog 18 #[.string s, .string q] w fun e w' => e = .returned (.bool true) ∧ Below w.heap.size w w'))
    (F6 : Box (∀ w : World, Calls Try.prog 18 #[.string q, .string t] w fun e w' => e = .returned (.bool (be && af)) ∧ Below w.heap.size w w')) :
    Calls Try.prog 7 #[.string s, .string t, .int .i64 (i : Int)] w fun e w' => e = .returned (.bool true) ∧ Below w.heap.size w w' := by
  have hi1 : (i : Int) ≤ (s.size : Int) := by omega
  have hi2 : (i : Int) ≤ (t.size : Int) := by omega
  cases be <;> cases af <;> simp only [Bool.and_self, Bool.and_false, Bool.and_true] at F1 F4 F6
  all_goals
    go_enter Try.func7, Try.ntmps7
    go_wp2_with fail
    refine h17.out.mono ?_
    rintro e w0 ⟨rfl, rfl⟩
    go_wp2_with fail
    refine (F1.out _).mono ?_
    rintro e w1 ⟨rfl, hb⟩
    have B1 := Box.mk hb
    clear hb
    go_wp2
    go_quiet ((go_at_call 18; exact Calls.quiet_of (F2.out _)))
    have B2 := Box.mk (below_draws B1.out nq)
    generalize w1.drewN nq = w2 at B2 ⊢
    clear B1
    go_wp2
    go_quiet ((go_at_call 18; exact Calls.quiet_of (F3.out _)))
    have B3 := Box.mk (below_draws B2.out nq)
    generalize w2.drewN nq = w3 at B3 ⊢
    clear B2
    go_wp2_with fail
    refine (F4.out _).mono ?_
    rintro e w4 ⟨rfl, hb⟩
    have B4 := Box.mk (below_next B3.out hb)
    clear hb B3
    go_wp2_with fail
    refine (G.out _).mono ?_
    rintro e w5 ⟨rfl, hb⟩
    have B5 := Box.mk (below_next B4.out hb)
    clear hb B4
    go_wp2_with fail
    refine (F5.out _).mono ?_
    rintro e w6 ⟨rfl, hb⟩
    have B6 := Box.mk (below_next B5.out hb)
    clear hb B5
    go_wp2_with fail
    refine (F6.out _).mono ?_
    rintro e w7 ⟨rfl, hb⟩
    have B7 := Box.mk (below_next B6.out hb)
    clear hb B6
    go_wp2
    go_ret
    exact ⟨rfl, B7.out⟩

theorem size_map (s : ByteArray) (f : UInt8 → UInt8) : (ByteArray.mk (s.data.toList.map f).toArray).size = s.size := by
  show (s.data.toList.map f).toArray.size = s.data.size
  rw [List.size_toArray, List.length_map, Array.length_toList]

theorem take_cut (s : ByteArray) (i : Nat) : (s.extract 0 i).data.toList = s.data.toList.take i := by simp
theorem drop_cut (s : ByteArray) (i : Nat) : (s.extract i s.size).data.toList = s.data.toList.drop i := by
  simp
  rw [List.take_of_length_le]; simp

theorem main7 (s t : ByteArray) (i : Nat) (w : World) (hst : s.size + t.size ≤ 1048576) (hs : s.size ≤ 524288) (ht : t.size ≤ 524288) (his : i ≤ s.size) (hit : i ≤ t.size) :
    Calls Try.prog 7 #[.string s, .string t, .int .i64 (i : Int)] w fun e w' => e = .returned (.bool true) ∧ Below w.heap.size w w' := by
  have big : 1048576 ≤ maxLen := by unfold maxLen; omega
  have h17 := Box.mk (bound17 s t i w (by omega) (by omega))
  rw [decide_eq_true hst] at h17
  have cut := eqf_cut s.data.toList t.data.toList i
  have F1 := Box.mk (fun w => fold18b s t w (by omega))
  have F2 := Box.mk (fun w => fold18 (s.extract 0 i) (t.extract 0 i) w (by simp; omega))
  have F3 := Box.mk (fun w => fold18 (s.extract i s.size) (t.extract i t.size) w (by simp; omega))
  have F4 := Box.mk (fun w => fold18b t s w (by omega))
  have G := Box.mk (fun w => swap19 s w (by omega))
  have F5 := Box.mk (fun w => fold18b s ⟨(s.data.toList.map swap).toArray⟩ w (by omega))
  have F6 := Box.mk (fun w => fold18b ⟨(s.data.toList.map swap).toArray⟩ t w (by rw [size_map]; omega))
  rw [take_cut, take_cut] at F2
  rw [drop_cut, drop_cut] at F3
  rw [eqf_comm t.data.toList s.data.toList] at F4
  rw [show eqf s.data.toList (ByteArray.mk (s.data.toList.map swap).toArray).data.toList = true from eqf_swap _] at F5
  rw [show eqf (ByteArray.mk (s.data.toList.map swap).toArray).data.toList t.data.toList = eqf s.data.toList t.data.toList from eqf_swap_left _ _] at F6
  rw [cut] at F1 F4 F6
  exact core7 s t _ i _ _ w hs ht his hit h17 F1 F2 F3 F4 G F5 F6

theorem walk7 (s t : ByteArray) (i : Int) (w : World) (hs : s.size ≤ maxLen) (ht : t.size ≤ maxLen) :
    Calls Try.prog 7 #[.string s, .string t, .int .i64 i] w fun e w' => e = .returned (.bool true) ∧ Below w.heap.size w w' := by
  have h17 := Box.mk (bound17 s t i w hs ht)
  by_cases h1 : s.size + t.size ≤ 1048576
  · rw [decide_eq_true h1] at h17
    by_cases h2 : s.size ≤ 524288
    · by_cases h3 : t.size ≤ 524288
      · by_cases h4 : i < 0
        · go_enter Try.func7, Try.ntmps7
          go_wp2_with fail
          refine h17.out.mono ?_
          rintro e w' ⟨rfl, rfl⟩
          go_wp2
          go_ret
          exact ⟨rfl, Below.refl _ _⟩
        · by_cases h5 : (s.size : Int) < i
          · go_enter Try.func7, Try.ntmps7
            go_wp2_with fail
            refine h17.out.mono ?_
            rintro e w' ⟨rfl, rfl⟩
            go_wp2
            go_ret
            exact ⟨rfl, Below.refl _ _⟩
          · by_cases h6 : (t.size : Int) < i
            · go_enter Try.func7, Try.ntmps7
              go_wp2_with fail
              refine h17.out.mono ?_
              rintro e w' ⟨rfl, rfl⟩
              go_wp2
              go_ret
              exact ⟨rfl, Below.refl _ _⟩
            · obtain ⟨n, rfl⟩ : ∃ n : Nat, i = (n : Int) := ⟨i.toNat, by omega⟩
              exact main7 s t n w h1 h2 h3 (by omega) (by omega)
      · go_enter Try.func7, Try.ntmps7
        go_wp2_with fail
        refine h17.out.mono ?_
        rintro e w' ⟨rfl, rfl⟩
        go_wp2
        go_ret
        exact ⟨rfl, Below.refl _ _⟩
    · go_enter Try.func7, Try.ntmps7
      go_wp2_with fail
      refine h17.out.mono ?_
      rintro e w' ⟨rfl, rfl⟩
      go_wp2
      go_ret
      exact ⟨rfl, Below.refl _ _⟩
  · rw [decide_eq_false h1] at h17
    go_enter Try.func7, Try.ntmps7
    go_wp2_with fail
    refine h17.out.mono ?_
    rintro e w' ⟨rfl, rfl⟩
    go_wp2
    go_ret
    exact ⟨rfl, Below.refl _ _⟩
end Go.Proofs.Qxb6617838a
