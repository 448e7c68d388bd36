import Derived.Test.Qxb6614059aRows
import Derived.WalkKit
import Derived.OpenShut
import Derived.Deep.QuietTactic
import Derived.BigQuiet
namespace Go.Proofs.Qxb6614059a
open Go.RowKit
set_option linter.unusedVariables false

theorem hide {p : Prop} (h : p) : Hid p := h

theorem grown_drewN {W w : World} (h : Grown W w) (k : Nat) : Grown W (w.drewN k) := h

/-- The key's count of terms. -/
def keyT (n t : Int) : Int := wrap32 (t - wrap32 (3 * n))
theorem keyT_step (n t : Int) : keyT (wrap32 (n + 1)) (wrap32 (t + 3)) = keyT n t := by
  unfold keyT wrap32; omega
theorem keyT_zero (t : Int) (h0 : -2147483648 ≤ t) (h1 : t ≤ 2147483647) : keyT 0 t = t := by
  unfold keyT wrap32; omega

theorem key_any (s p n t : Int) (w : World) :
    Calls Try.prog 17 #[.int .i32 s, .agg #[.int .i32 p, .int .i32 n, .int .i32 t]] w fun e w' => e = .returned (.agg #[.int .i32 s, .int .i32 p, .int .i32 (keyT n t)]) ∧ ∃ c1 c2 : Array Value, w' = (w.alloc (.cells c1 44)).alloc (.cells c2 41) := by
  go_enter Try.func17, Try.ntmps17
  go_wp2
  exact bodyPost_ret (v := .agg #[.int .i32 s, .int .i32 p, .int .i32 (keyT n t)]) (by simp [results, Try.results17, go_sem, keyT]) rfl ⟨rfl, _, _, rfl⟩

theorem zzkey_any (s p n t : Int) (w : World) :
    Calls Try.prog 11 #[.int .i32 s, .int .i32 p, .int .i32 n, .int .i32 t] w fun e w' => e = .returned (.tuple #[.int .i32 s, .int .i32 p, .int .i32 (keyT n t)]) ∧ ∃ (c1 c2 c3 : Array Value) (k : Nat), w' = (((w.alloc (.cells c1 44)).alloc (.cells c2 41)).alloc (.cells c3 41)).drewN k := by
  go_enter Try.func11, Try.ntmps11
  go_wp2_with fail
  refine (key_any s p n t _).mono ?_
  rintro e w' ⟨rfl, c1, c2, rfl⟩
  go_wp2_with fail
  go_quiet (fail)
  go_wp2
  go_ret3
  exact ⟨rfl, _, _, _, _, rfl⟩

theorem nest_walk (s p n t : Int) (h0 : -2147483648 ≤ t) (h1 : t ≤ 2147483647) (w : World) :
    Calls Try.prog 5 #[.int .i32 s, .int .i32 p, .int .i32 n, .int .i32 t] w fun e w' => e = .returned (.bool true) ∧ Grown w w' := by
  have e1 := hide (keyT_step n t)
  have e2 := hide (keyT_zero t h0 h1)
  go_enter Try.func5, Try.ntmps5
  go_wp2_with fail
  refine (zzkey_any s p n t _).mono ?_
  rintro e w1 ⟨rfl, c1, c2, c3, k1, rfl⟩
  go_wp2_with fail
  refine (zzkey_any s p (wrap32 (n + 1)) (wrap32 (t + 3)) _).mono ?_
  rintro e w2 ⟨rfl, c4, c5, c6, k2, rfl⟩
  rw [e1.out]
  go_wp2_with fail
  refine (zzkey_any s p 0 t _).mono ?_
  rintro e w3 ⟨rfl, c7, c8, c9, k3, rfl⟩
  rw [e2.out]
  go_wp2
  go_ret
  exact ⟨rfl, grown_drewN ((((grown_drewN ((((grown_drewN ((((Grown.refl w).alloc c1 44).alloc c2 41).alloc c3 41) k1).alloc c4 44).alloc c5 41).alloc c6 41) k2).alloc c7 44).alloc c8 41).alloc c9 41) k3⟩
end Go.Proofs.Qxb6614059a
