/-
  THE WALK of FnHoldsListCommaSplitsAtUnquotedPrefix (3), out of its callees' contracts.
-/
import Derived.Test.Qxb6617816aComma
namespace Go.Proofs.Qxb6617816a
open Go.RowKit
open Plain

theorem Hid.mk' {p : Prop} (h : p) : Hid p := h

set_option maxHeartbeats 1000000 in
/-- The walk over the five answers of the callees, whatever they are, where they stand to each other as the plain law says. -/
theorem core3 (a0 a1 : ByteArray) (w : World) (ha hb wh q c : Bool) (hs : a0.size + a1.size ≤ 1048576)
    (b7 : ∀ w, Calls Try.prog 7 #[.string a0, .string a1] w fun e w' => e = .returned (.bool true) ∧ w' = w)
    (c1 : ∀ w, Calls Try.prog 8 #[.string (a0 ++ a1)] w fun e w' => e = .returned (.bool wh) ∧ w' = w)
    (c2 : ∀ w, Calls Try.prog 8 #[.string a0] w fun e w' => e = .returned (.bool ha) ∧ w' = w)
    (c3 : ∀ w, Calls Try.prog 8 #[.string a1] w fun e w' => e = .returned (.bool hb) ∧ w' = w)
    (d1 : ∀ w, Calls Try.prog 9 #[.string a0, .int .u8 34] w fun e w' => e = .returned (.bool q) ∧ w' = w)
    (d2 : ∀ w, Calls Try.prog 9 #[.string a0, .int .u8 44] w fun e w' => e = .returned (.bool c) ∧ w' = w)
    (l1 : (ha && !wh) = false) (l2 : q = true ∨ (ha == c && wh == (ha || hb)) = true) :
    Calls Try.prog 3 #[.string a0, .string a1] w fun e w' => e = .returned (.bool true) ∧ w' = w := by
  have h0 : a0.size ≤ 1048576 := by omega
  have h1 : a1.size ≤ 1048576 := by omega
  have B7 := Hid.mk' b7
  have C1 := Hid.mk' c1
  have C2 := Hid.mk' c2
  have C3 := Hid.mk' c3
  have D1 := Hid.mk' d1
  have D2 := Hid.mk' d2
  clear b7 c1 c2 c3 d1 d2
  cases q
  · have l3 : ha = c ∧ wh = (ha || hb) := by simpa using l2
    obtain ⟨rfl, rfl⟩ := l3
    clear l2
    cases ha <;> cases hb <;> simp only [Bool.or_false, Bool.or_true] at C1
    all_goals
      go_enter Try.func3, Try.ntmps3
      go_wp2_with fail
      refine (B7.out _).mono ?_
      rintro e w' ⟨rfl, rfl⟩
      go_wp2_with fail
      refine (C1.out _).mono ?_
      rintro e w' ⟨rfl, rfl⟩
      go_wp2_with fail
      refine (C2.out _).mono ?_
      rintro e w' ⟨rfl, rfl⟩
      go_wp2_with fail
      refine (C3.out _).mono ?_
      rintro e w' ⟨rfl, rfl⟩
      go_wp2_with fail
      refine (D1.out _).mono ?_
      rintro e w' ⟨rfl, rfl⟩
      go_wp2_with fail
      refine (D2.out _).mono ?_
      rintro e w' ⟨rfl, rfl⟩
      go_wp2
      go_ret
      exact ⟨rfl, rfl⟩
  · clear l2
    rcases (show (ha = false ∧ wh = false) ∨ (ha = false ∧ wh = true) ∨ (ha = true ∧ wh = true) from by revert l1; cases ha <;> cases wh <;> simp) with ⟨rfl, rfl⟩ | ⟨rfl, rfl⟩ | ⟨rfl, rfl⟩
    all_goals
      clear l1
      go_enter Try.func3, Try.ntmps3
      go_wp2_with fail
      refine (B7.out _).mono ?_
      rintro e w' ⟨rfl, rfl⟩
      go_wp2_with fail
      refine (C1.out _).mono ?_
      rintro e w' ⟨rfl, rfl⟩
      go_wp2_with fail
      refine (C2.out _).mono ?_
      rintro e w' ⟨rfl, rfl⟩
      go_wp2_with fail
      refine (C3.out _).mono ?_
      rintro e w' ⟨rfl, rfl⟩
      go_wp2_with fail
      refine (D1.out _).mono ?_
      rintro e w' ⟨rfl, rfl⟩
      go_wp2
      go_ret
      exact ⟨rfl, rfl⟩

theorem walk3 (a0 a1 : ByteArray) (w0 : a0.size ≤ maxLen) (w1 : a1.size ≤ maxLen) (w : World) :
    Calls Try.prog 3 #[.string a0, .string a1] w fun e w' => e = .returned (.bool true) ∧ w' = w := by
  have b7 := fun w => bound7 a0 a1 w w0 w1
  by_cases hs : a0.size + a1.size ≤ 1048576
  · rw [decide_eq_true hs] at b7
    have hd : (a0 ++ a1).data.toList = a0.data.toList ++ a1.data.toList := by simp
    have c1 := fun w => comma8 (a0 ++ a1) w (by simp; omega)
    rw [hd] at c1
    refine core3 a0 a1 w _ _ _ _ _ hs b7 c1 (fun w => comma8 a0 w (by omega)) (fun w => comma8 a1 w (by omega))
      (fun w => has9 a0 34 w (by omega)) (fun w => has9 a0 44 w (by omega)) ?_ ?_
    · cases h : holds a0.data.toList
      · rfl
      · rw [holds_append_left _ h]; rfl
    · cases h : has 34 a0.data.toList
      · right
        rw [holds_plain h, holds_append_plain _ h, holds_plain h]; simp
      · left; rfl
  · rw [decide_eq_false hs] at b7
    go_enter Try.func3, Try.ntmps3
    go_wp2_with fail
    refine (b7 _).mono ?_
    rintro e w' ⟨rfl, rfl⟩
    go_wp2
    go_ret
    exact ⟨rfl, rfl⟩
end Go.Proofs.Qxb6617816a
