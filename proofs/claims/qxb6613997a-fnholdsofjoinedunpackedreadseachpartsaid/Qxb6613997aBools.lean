/-
  WHAT A WALK IS TOLD OF A SLICE OF BOOLS THAT CAME IN, and its opening.
-/
import Derived.Test.Qxb6613997aRows
import Derived.ProofKit
import Derived.Deep.Grids
namespace Go.Proofs.Qxb6613997a

/-- A slice of bools that came in: nil; or it leads to a row of 'cap' cells, the bools 'B 0, B 1, ..'. -/
def IsBools (w : World) (a : Option Addr) (len cap : Nat) (B : Nat → Bool) : Prop :=
  (a = none ∧ len = 0 ∧ cap = 0) ∨
  ∃ x, a = some x ∧ len ≤ cap ∧ cap ≤ maxLen ∧ ∀ i, i < cap → w.cell? (x.add i) = some (.bool (B i))

theorem isBools_of {H : Type} {enc : TypeId × Value → H} {W : World} {held : Bool} {fuel : Nat} {a : Option Addr} {len cap : Nat} {y : DataW H × List MemPlace}
    (h : DataW.trod enc Try.prog W 0 (fun _ => true) held fuel 22 (Value.slice a len cap).cells.toList = some y) : ∃ B, IsBools W a len cap B := by
  rcases Go.Deep.open_bools Try.underlying22 Try.underlying4 (by kernel_rfl) h with ⟨hcs, _⟩ | ⟨x, l, c, B, hcs, _, hl, hm, _, hcell⟩
  · simp [Value.cells] at hcs
    obtain ⟨rfl, rfl, rfl⟩ := hcs
    exact ⟨fun _ => false, .inl ⟨rfl, rfl, rfl⟩⟩
  · simp [Value.cells] at hcs
    obtain ⟨rfl, rfl, rfl⟩ := hcs
    exact ⟨B, .inr ⟨_, rfl, hl, hm, hcell⟩⟩
end Go.Proofs.Qxb6613997a
