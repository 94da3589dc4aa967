/-
  FnDelScriptLeavesExactlyTheOthers (5): the walk for every length.
-/
import Derived.Test.Qxb6617816aDelLawFive
namespace Go.Proofs.Qxb6617816a
open Go.RowKit

set_option maxRecDepth 20000 in
set_option maxHeartbeats 800000 in
theorem walk5 (ao bo co : Option Addr) (ca cb cc : Nat) (l : List ByteArray) (vv : VV) (ix : Bool) (m : List ByteArray) (w : World)
    (hl : l.length ≤ maxLen) (hv : vv.length ≤ maxLen) (hm : m.length ≤ maxLen) (hS : Strs w ao l) (hV : Vals w bo vv) (hT : Strs w co m)
    (hsz : ∀ s ∈ l, s.size ≤ maxLen) (hmz : ∀ s ∈ m, s.size ≤ maxLen) :
    Calls Try.prog 5 #[.slice ao l.length ca, .slice bo vv.length cb, .bool ix, .slice co m.length cc] w fun e w' => e = .returned (.bool true) ∧ Below w.heap.size w w' := by
  have h12 := Box.mk (bytes12 ao bo co ca cb cc l vv m ix w hl hv hm hS hV hT)
  by_cases h1 : l.length ≤ 4096
  · by_cases h2 : vv.length ≤ 4096
    · by_cases h3 : m.length ≤ 4096
      · exact main5 ao bo co ca cb cc l vv ix m w h1 h2 h3 ⟨hS⟩ ⟨hV⟩ ⟨hT⟩ ⟨hsz⟩ ⟨hmz⟩
      · clear hS hV hT hsz hmz
        go_enter Try.func5, Try.ntmps5
        go_wp2_with fail
        refine h12.out.mono ?_
        rintro e w' ⟨r, rfl, rfl⟩
        cases r <;> go_wp2 <;> go_ret <;> exact ⟨rfl, Below.refl _ _⟩
    · clear hS hV hT hsz hmz
      go_enter Try.func5, Try.ntmps5
      go_wp2_with fail
      refine h12.out.mono ?_
      rintro e w' ⟨r, rfl, rfl⟩
      cases r <;> go_wp2 <;> go_ret <;> exact ⟨rfl, Below.refl _ _⟩
  · clear hS hV hT hsz hmz
    go_enter Try.func5, Try.ntmps5
    go_wp2_with fail
    refine h12.out.mono ?_
    rintro e w' ⟨r, rfl, rfl⟩
    cases r <;> go_wp2 <;> go_ret <;> exact ⟨rfl, Below.refl _ _⟩
end Go.Proofs.Qxb6617816a
