import Derived.Test.Qxb6613997aPos
import Derived.Test.Qxb6613997aPutLaws
namespace Go.Proofs.Qxb6613997a
open Go.RowKit
set_option linter.unusedVariables false

/-- The value that ArgAt hands out. -/
def argV (P : Nat → Addr) (i : Int) : Value := if i < 0 then .nilIface else .iface 44 (.pointer (some (P i.toNat)))

set_option maxHeartbeats 400000 in
theorem argat_any (g n cap : Nat) (l : List Int) (P : Nat → Addr) (z : Int) (w : World) (hg : g < w.heap.size) (hn : n ≤ 1000000) (hl : l.length = n)
    (hA : ArgsAt w g n (fun j => l.getD j 0) (fun j => .iface 44 (.pointer (some (P j))))) :
    Calls Try.prog 18 #[.slice (some ⟨g, 0, none⟩) n cap, .int .i64 z] w fun e w' => e = .returned (argV P (pa l z 0)) ∧ Below w.heap.size w w' := by
  go_enter Try.func18, Try.ntmps18
  go_wp2_with fail
  refine (posat_any g n cap l P z _ hg hn hl hA).mono ?_
  rintro e w1 ⟨rfl, hb⟩
  have hr := pa_range l z 0
  by_cases hi : pa l z 0 < 0
  · have HV : Hid (argV P (pa l z 0) = .nilIface) := if_pos hi
    generalize pa l z 0 = i at hr hi
    have hi' : ¬ 0 ≤ i := by omega
    go_wp2
    go_ret
    exact ⟨by rw [HV.out]; rfl, hb⟩
  · have HV : Hid (argV P (pa l z 0) = .iface 44 (.pointer (some (P (pa l z 0).toNat)))) := if_neg hi
    obtain ⟨k, HK⟩ : ∃ k : Nat, Hid (pa l z 0 = (k : Int)) := ⟨(pa l z 0).toNat, by unfold Hid; omega⟩
    rw [HK.out] at hr HV ⊢
    rw [Int.toNat_natCast] at HV
    have hk : k < n := by omega
    have hk' : (k : Int) < (n : Int) := by omega
    obtain ⟨_, _, d2'⟩ := (hA.below hg hb) k hk
    rw [Nat.mul_comm 3 k] at d2'
    have d2 : w1.cell? ⟨g, k * 3 + 2, none⟩ = some (.iface 44 (.pointer (some (P k)))) := d2'
    clear d2' hA hi
    go_wp2
    go_ret
    exact ⟨by rw [HK.out, HV.out]; rfl, hb⟩

theorem assert_yes (v : Value) (w : World) : (Instr.typeAssert (.iface 44 v) 29 44 true).run Try.prog w = .ok (.tuple #[v, .bool true]) w := by kernel_rfl
theorem assert_nil (w : World) : (Instr.typeAssert .nilIface 29 44 true).run Try.prog w = .ok (.tuple #[.pointer none, .bool false]) w := by kernel_rfl

theorem localof_any (P : Nat → Addr) (i : Int) (w : World) :
    Calls Try.prog 17 #[argV P i] w fun e w' => e = .returned (.pointer (ptrAt P i)) ∧ w' = w := by
  unfold argV ptrAt
  by_cases hi : i < 0
  · rw [if_pos hi, if_pos hi]
    have ky := assert_yes
    have kn := assert_nil
    go_enter Try.func17, Try.ntmps17
    go_wp2
    go_ret
    exact ⟨rfl, rfl⟩
  · rw [if_neg hi, if_neg hi]
    have ky := assert_yes
    have kn := assert_nil
    go_enter Try.func17, Try.ntmps17
    go_wp2
    go_ret
    exact ⟨rfl, rfl⟩
end Go.Proofs.Qxb6613997a
