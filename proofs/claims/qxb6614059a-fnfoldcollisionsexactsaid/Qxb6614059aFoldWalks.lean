import Derived.Test.Qxb6614059aFold
namespace Go.Proofs.Qxb6614059a
open Go.RowKit
set_option linter.unusedVariables false

theorem collide_walk (a b : Nat) (ha : a < 18446744073709551616) (hb : b < 18446744073709551616) (w : World) :
    Calls Try.prog 4 #[.int .u64 a, .int .u64 b] w fun e w' => e = .returned (.bool true) ∧ w' = w := by
  have h := law_collide a b ha hb
  have t : ((foldI a == foldI b) == (bits .xor .u64 a b % 4294967296 == bits .xor .u64 a b / 4294967296 % 4294967296)) = true := by
    rw [beq_iff_eq, Bool.eq_iff_iff, beq_iff_eq, beq_iff_eq]; exact h
  have HT : Hid (((foldI a == foldI b) == (bits .xor .u64 a b % 4294967296 == bits .xor .u64 a b / 4294967296 % 4294967296)) = true) := t
  clear h t
  go_enter Try.func4, Try.ntmps4
  go_wp2_with fail
  refine (fold_any _ (by omega) (by omega) _).mono ?_
  rintro e w ⟨rfl, rfl⟩
  go_wp2_with fail
  refine (fold_any _ (by omega) (by omega) _).mono ?_
  rintro e w ⟨rfl, rfl⟩
  go_wp2
  go_ret
  exact ⟨congrArg (fun b => Ending.returned (.bool b)) HT.out, rfl⟩

theorem char_walk (a b : Nat) (ha : a < 18446744073709551616) (hb : b < 18446744073709551616) (w : World) :
    Calls Try.prog 3 #[.int .u64 a, .int .u64 b] w fun e w' => e = .returned (.bool true) ∧ w' = w := by
  have t1 : (foldI (bits .xor .u64 a b) == bits .xor .u32 (foldI a) (foldI b)) = true := beq_iff_eq.2 (law_xor a b ha hb)
  have t2 : (foldI (swapI a) == foldI a) = true := beq_iff_eq.2 (law_swap a ha)
  have t3 : (foldI (bits .and .u64 a 4294967295) == (a : Int) % 4294967296) = true := beq_iff_eq.2 (law_low a ha)
  have r1 : 0 ≤ bits .xor .u64 a b ∧ bits .xor .u64 a b ≤ 18446744073709551615 := by
    rw [bits_xor_u64_nat a b ha hb]; have := xor_lt a b ha hb; omega
  have r2 : 0 ≤ swapI a ∧ swapI a ≤ 18446744073709551615 := by
    rw [swapI_nat a ha]; have := swapN_lt a ha; omega
  have r3 : 0 ≤ bits .and .u64 a 4294967295 ∧ bits .and .u64 a 4294967295 ≤ 18446744073709551615 := by
    have e := bits_and_u64_nat a 4294967295 ha (by omega)
    rw [show ((4294967295 : Nat) : Int) = 4294967295 from rfl] at e
    rw [e]; have := Nat.and_le_left (n := a) (m := 4294967295); omega
  obtain ⟨r11, r12⟩ := r1
  obtain ⟨r21, r22⟩ := r2
  obtain ⟨r31, r32⟩ := r3
  go_enter Try.func3, Try.ntmps3
  go_wp2_with fail
  refine (fold_any _ r11 r12 _).mono ?_
  rintro e w ⟨rfl, rfl⟩
  go_wp2_with fail
  refine (fold_any _ (by omega) (by omega) _).mono ?_
  rintro e w ⟨rfl, rfl⟩
  go_wp2_with fail
  refine (fold_any _ (by omega) (by omega) _).mono ?_
  rintro e w ⟨rfl, rfl⟩
  go_wp2_with fail
  refine (swap_any _ (by omega) (by omega) _).mono ?_
  rintro e w ⟨rfl, rfl⟩
  go_wp2_with fail
  refine (fold_any _ r21 r22 _).mono ?_
  rintro e w ⟨rfl, rfl⟩
  go_wp2_with fail
  refine (fold_any _ r31 r32 _).mono ?_
  rintro e w ⟨rfl, rfl⟩
  go_wp2
  go_ret
  exact ⟨rfl, rfl⟩
end Go.Proofs.Qxb6614059a
