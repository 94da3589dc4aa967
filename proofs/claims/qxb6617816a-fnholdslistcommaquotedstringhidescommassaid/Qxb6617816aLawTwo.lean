/-
  THE WALK of FnHoldsListCommaQuotedStringHidesCommas (4), out of its callees' contracts.
-/
import Derived.Test.Qxb6617816aQuote
namespace Go.Proofs.Qxb6617816a
open Go.RowKit
open Plain

set_option maxHeartbeats 1000000 in
theorem core4 (a0 a1 q : ByteArray) (w : World) (h : Bool) (h0 : a0.size ≤ 524288) (h1 : a1.size ≤ 524288) (hq : q.size ≤ 1048578)
    (b10 : ∀ w, Calls Try.prog 10 #[.string a0, .string a1] w fun e w' => e = .returned (.bool true) ∧ w' = w)
    (q11 : ∀ w, Calls Try.prog 11 #[.string a0] w fun e w' => e = .returned (.string q) ∧ Below w.heap.size w w')
    (c1 : ∀ w, Calls Try.prog 8 #[.string q] w fun e w' => e = .returned (.bool false) ∧ w' = w)
    (c2 : ∀ w, Calls Try.prog 8 #[.string (q ++ a1)] w fun e w' => e = .returned (.bool h) ∧ w' = w)
    (c3 : ∀ w, Calls Try.prog 8 #[.string a1] w fun e w' => e = .returned (.bool h) ∧ w' = w)
    (c4 : ∀ w, Calls Try.prog 8 #[.string (q ++ ⟨#[44]⟩ ++ a1)] w fun e w' => e = .returned (.bool true) ∧ w' = w) :
    Calls Try.prog 4 #[.string a0, .string a1] w fun e w' => e = .returned (.bool true) ∧ Below w.heap.size w w' := by
  have B := Hid.mk' b10
  have Q := Hid.mk' q11
  have C1 := Hid.mk' c1
  have C2 := Hid.mk' c2
  have C3 := Hid.mk' c3
  have C4 := Hid.mk' c4
  clear b10 q11 c1 c2 c3 c4
  cases h
  all_goals
    go_enter Try.func4, Try.ntmps4
    go_wp2_with fail
    refine (B.out _).mono ?_
    rintro e w' ⟨rfl, rfl⟩
    go_wp2_with fail
    refine (Q.out _).mono ?_
    rintro e w1 ⟨rfl, hb⟩
    go_wp2_with fail
    refine (C1.out _).mono ?_
    rintro e w' ⟨rfl, rfl⟩
    go_wp2_with fail
    refine (C2.out _).mono ?_
    rintro e w' ⟨rfl, rfl⟩
    go_wp2_with fail
    refine (C3.out _).mono ?_
    rintro e w' ⟨rfl, rfl⟩
    go_wp2_with fail
    refine (C4.out _).mono ?_
    rintro e w' ⟨rfl, rfl⟩
    go_wp2
    go_ret
    exact ⟨rfl, hb⟩

theorem size_quote (l : List UInt8) : (ByteArray.mk (quote l).toArray).size = (quote l).length := by simp [ByteArray.size]

theorem walk4 (a0 a1 : ByteArray) (w0 : a0.size ≤ maxLen) (w1 : a1.size ≤ maxLen) (w : World) :
    Calls Try.prog 4 #[.string a0, .string a1] w fun e w' => e = .returned (.bool true) ∧ Below w.heap.size w w' := by
  have b10 := fun w => bound10 a0 a1 w w0 w1
  by_cases hs : a0.size + a1.size ≤ 1048576
  · rw [decide_eq_true hs] at b10
    by_cases h0 : a0.size ≤ 524288
    · by_cases h1 : a1.size ≤ 524288
      · have hl : (quote a0.data.toList).length ≤ 1048578 := by
          have := esc_len a0.data.toList
          have e : a0.data.toList.length = a0.size := by simp
          unfold quote
          simp only [List.length_cons, List.length_append, List.length_nil]
          omega
        have hq : (ByteArray.mk (quote a0.data.toList).toArray).size ≤ 1048578 := by rw [size_quote]; exact hl
        have c1 := fun w => comma8 ⟨(quote a0.data.toList).toArray⟩ w (by omega)
        have c2 := fun w => comma8 (⟨(quote a0.data.toList).toArray⟩ ++ a1) w (by simp only [ByteArray.size_append]; omega)
        have c4 := fun w => comma8 (⟨(quote a0.data.toList).toArray⟩ ++ ⟨#[44]⟩ ++ a1) w (by simp only [ByteArray.size_append]; have : (ByteArray.mk #[44]).size = 1 := rfl; omega)
        rw [show holds (ByteArray.mk (quote a0.data.toList).toArray).data.toList = false from holds_quote _] at c1
        rw [show holds (ByteArray.mk (quote a0.data.toList).toArray ++ a1).data.toList = holds a1.data.toList from by
          rw [show (ByteArray.mk (quote a0.data.toList).toArray ++ a1).data.toList = quote a0.data.toList ++ a1.data.toList from by simp]; exact holds_quote_append _ _] at c2
        rw [show holds (ByteArray.mk (quote a0.data.toList).toArray ++ ⟨#[44]⟩ ++ a1).data.toList = true from by
          rw [show (ByteArray.mk (quote a0.data.toList).toArray ++ ⟨#[44]⟩ ++ a1).data.toList = quote a0.data.toList ++ [44] ++ a1.data.toList from by simp]; exact holds_quote_comma _ _] at c4
        exact core4 a0 a1 _ w _ h0 h1 hq b10 (fun w => quote11 a0 w h0) c1 c2 (fun w => comma8 a1 w (by omega)) c4
      · go_enter Try.func4, Try.ntmps4
        go_wp2_with fail
        refine (b10 _).mono ?_
        rintro e w' ⟨rfl, rfl⟩
        go_wp2
        go_ret
        exact ⟨rfl, Below.refl _ _⟩
    · go_enter Try.func4, Try.ntmps4
      go_wp2_with fail
      refine (b10 _).mono ?_
      rintro e w' ⟨rfl, rfl⟩
      go_wp2
      go_ret
      exact ⟨rfl, Below.refl _ _⟩
  · rw [decide_eq_false hs] at b10
    go_enter Try.func4, Try.ntmps4
    go_wp2_with fail
    refine (b10 _).mono ?_
    rintro e w' ⟨rfl, rfl⟩
    go_wp2
    go_ret
    exact ⟨rfl, Below.refl _ _⟩
end Go.Proofs.Qxb6617816a
