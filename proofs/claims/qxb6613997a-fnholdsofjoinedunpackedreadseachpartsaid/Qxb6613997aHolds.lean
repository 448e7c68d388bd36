import Derived.Test.Qxb6613997aRows
import Derived.WalkKit
import Derived.Below
namespace Go.Proofs.Qxb6613997a
open Go.RowKit
set_option linter.unusedVariables false

/-- 'Holds' past the end of 'Unpacked'. -/
theorem holds_past (b : Nat) (a : Option Addr) (len cap : Nat) (i : Int) (w : World) (hc : w.cell? ⟨b, 4, none⟩ = some (.slice a len cap)) (h : (len : Int) ≤ i) :
    Calls Try.prog 9 #[.pointer (some ⟨b, 0, none⟩), .int .i64 i] w fun e w' => e = .returned (.bool true) ∧ w' = w := by
  have hd : decide (i ≥ (len : Int)) = true := by simpa using h
  go_enter Try.func9, Try.ntmps9
  go_wp2
  go_ret
  exact ⟨rfl, rfl⟩

/-- 'Holds' inside 'Unpacked'. -/
theorem holds_in (b : Nat) (x : Addr) (len cap : Nat) (k : Nat) (v : Bool) (w : World) (hc : w.cell? ⟨b, 4, none⟩ = some (.slice (some x) len cap)) (h : k < len) (hm : len ≤ maxLen) (hv : w.cell? (x.add k) = some (.bool v)) :
    Calls Try.prog 9 #[.pointer (some ⟨b, 0, none⟩), .int .i64 k] w fun e w' => e = .returned (.bool (!v)) ∧ w' = w := by
  have h' : (k : Int) < (len : Int) := by omega
  have hn : ¬ len ≤ k := by omega
  go_enter Try.func9, Try.ntmps9
  go_wp2
  go_ret
  exact ⟨by simp, rfl⟩
end Go.Proofs.Qxb6613997a
