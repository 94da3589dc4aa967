/-
  (*Fields).Del (18): the walks, without a map: the field found at place 'p' of 'q + 1'.
-/
import Derived.Test.Qxb6617816aDelStruck
import Derived.RegionTactic
import Derived.BigRegion
namespace Go.Proofs.Qxb6617816a
open Go.RowKit Go.Maps
open DelPlain

set_option maxHeartbeats 800000 in
theorem core18_scan (Fb Lb cap p q : Nat) (n0 n1 : ByteArray) (a0 a1 : Option Addr) (l0 k0 l1 k1 : Nat) (s : ByteArray) (w : World)
    (hq : q < cap) (hcap : cap ≤ 4096) (hpq : p < q) (hne : ¬ Lb = Fb)
    (hc0 : w.cell? ⟨Fb, 0, none⟩ = some (.slice (some ⟨Lb, 0, none⟩) (q + 1) cap)) (hc1 : w.cell? ⟨Fb, 1, none⟩ = some (.map none))
    (hnp : w.cell? ⟨Lb, p * 2, none⟩ = some (.string n0)) (hvp : w.cell? ⟨Lb, p * 2 + 1, none⟩ = some (.slice a0 l0 k0))
    (hnl : w.cell? ⟨Lb, q * 2, none⟩ = some (.string n1)) (hvl : w.cell? ⟨Lb, q * 2 + 1, none⟩ = some (.slice a1 l1 k1))
    (fz0 : w.frozen? ⟨Fb, 0, none⟩ = false) (fzl : ∀ j, w.frozen? ⟨Lb, j, none⟩ = false)
    (i29 : Hid (Calls Try.prog 29 #[.pointer (some ⟨Fb, 0, none⟩), .string s] w fun e w' => e = .returned (.int .i64 p) ∧ w' = w)) :
    Calls Try.prog 18 #[.pointer (some ⟨Fb, 0, none⟩), .string s] w fun e w' => e = .returned (.tuple #[]) ∧ ∃ n, w' = (struck w Fb Lb cap p q n1 a1 l1 k1).drewN n := by
  have q35 : ∀ (w : World) (r : Option Nat), (binOp .neq 35 (.map r) (.map none)).run Try.prog w = .ok (.bool (!r.isNone)) w := fun w r => run_neq_map_nil w _ _ _ r Try.underlying35
  go_enter Try.func18, Try.ntmps18
  go_wp2_with fail
  refine i29.out.mono ?_
  rintro e w' ⟨rfl, rfl⟩
  go_wp2
  go_region
  go_wp2
  go_end0
  exact ⟨rfl, 1, rfl⟩
end Go.Proofs.Qxb6617816a
