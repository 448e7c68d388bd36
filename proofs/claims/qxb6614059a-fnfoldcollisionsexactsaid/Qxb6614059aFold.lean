import Derived.Test.Qxb6614059aRows
import Derived.WalkKit
import Derived.OpenShut
import Derived.Laws.Bits64b
namespace Go.Proofs.Qxb6614059a
open Go.RowKit
set_option linter.unusedVariables false

/-! ### Plain laws on Nat: no Go here -/
def foldN (n : Nat) : Nat := (n ^^^ n / 2 ^ 32) % 2 ^ 32
theorem foldN_bit (n i : Nat) : (foldN n).testBit i = (decide (i < 32) && (n.testBit i ^^ n.testBit (i + 32))) := by
  unfold foldN
  rw [Nat.testBit_mod_two_pow, Nat.testBit_xor, Nat.testBit_div_two_pow]
theorem foldN_xor (a b : Nat) : foldN (a ^^^ b) = foldN a ^^^ foldN b := by
  apply Nat.eq_of_testBit_eq
  intro i
  rw [Nat.testBit_xor, foldN_bit, foldN_bit, foldN_bit, Nat.testBit_xor, Nat.testBit_xor]
  cases decide (i < 32) <;> cases a.testBit i <;> cases b.testBit i <;> cases a.testBit (i + 32) <;> cases b.testBit (i + 32) <;> rfl
def swapN (n : Nat) : Nat := (n * 2 ^ 32 % 2 ^ 64) ||| n / 2 ^ 32
theorem foldN_swap (n : Nat) (h : n < 2 ^ 64) : foldN (swapN n) = foldN n := by
  apply Nat.eq_of_testBit_eq
  intro i
  rw [foldN_bit, foldN_bit]
  by_cases hi : i < 32
  · have e1 : (swapN n).testBit i = n.testBit (i + 32) := by
      unfold swapN
      rw [Nat.testBit_or, Nat.testBit_mod_two_pow, Nat.testBit_mul_two_pow, Nat.testBit_div_two_pow]
      simp [show ¬ 32 ≤ i by omega]
    have e2 : (swapN n).testBit (i + 32) = n.testBit i := by
      unfold swapN
      rw [Nat.testBit_or, Nat.testBit_mod_two_pow, Nat.testBit_mul_two_pow, Nat.testBit_div_two_pow]
      have e3 : n.testBit (i + 32 + 32) = false := Nat.testBit_lt_two_pow (Nat.lt_of_lt_of_le h (Nat.pow_le_pow_right (by decide) (by omega)))
      simp [e3, show i + 32 < 64 by omega]
    rw [e1, e2, Bool.xor_comm]
  · simp [hi]
theorem foldN_low (n : Nat) : foldN (n &&& 4294967295) = n % 2 ^ 32 := by
  rw [show (4294967295 : Nat) = 2 ^ 32 - 1 from rfl, Nat.and_two_pow_sub_one_eq_mod]
  unfold foldN
  rw [Nat.div_eq_of_lt (Nat.mod_lt _ (by decide)), Nat.xor_zero, Nat.mod_mod]
theorem foldN_collide (a b : Nat) : foldN a = foldN b ↔ (a ^^^ b) % 2 ^ 32 = (a ^^^ b) / 2 ^ 32 % 2 ^ 32 := by
  have e : foldN a ^^^ foldN b = (a ^^^ b) % 2 ^ 32 ^^^ ((a ^^^ b) / 2 ^ 32 % 2 ^ 32) := by
    rw [← foldN_xor]; unfold foldN; rw [Nat.xor_mod_two_pow]
  constructor
  · intro h
    rw [h, Nat.xor_self] at e
    exact Nat.eq_of_testBit_eq fun i => by
      have := congrArg (fun x => Nat.testBit x i) e
      simp only [Nat.testBit_xor, Nat.zero_testBit] at this
      revert this
      cases ((a ^^^ b) % 2 ^ 32).testBit i <;> cases ((a ^^^ b) / 2 ^ 32 % 2 ^ 32).testBit i <;> simp
  · intro h
    rw [h, Nat.xor_self] at e
    exact Nat.eq_of_testBit_eq fun i => by
      have := congrArg (fun x => Nat.testBit x i) e
      simp only [Nat.testBit_xor, Nat.zero_testBit] at this
      revert this
      cases (foldN a).testBit i <;> cases (foldN b).testBit i <;> simp

/-! ### The same in the walk's own words -/
def foldI (x : Int) : Int := bits .xor .u64 x (x / 4294967296) % 4294967296
def swapI (x : Int) : Int := bits .or .u64 (IntKind.u64.wrap (x * 4294967296)) (x / 4294967296)
theorem foldI_nat (n : Nat) (h : n < 18446744073709551616) : foldI n = (foldN n : Nat) := by
  unfold foldI foldN
  have e : (n : Int) / 4294967296 = ((n / 4294967296 : Nat) : Int) := by omega
  rw [e, bits_xor_u64_nat n (n / 4294967296) h (by omega), show (2 : Nat) ^ 32 = 4294967296 from rfl]
  omega
theorem swapI_nat (n : Nat) (h : n < 18446744073709551616) : swapI n = (swapN n : Nat) := by
  unfold swapI swapN
  have e : (n : Int) / 4294967296 = ((n / 4294967296 : Nat) : Int) := by omega
  have e2 : IntKind.u64.wrap ((n : Int) * 4294967296) = ((n * 4294967296 % 18446744073709551616 : Nat) : Int) := by rw [IntKind.wrap_u64]; omega
  rw [e, e2, bits_or_u64_nat _ _ (by omega) (by omega)]
theorem swapN_lt (n : Nat) (h : n < 18446744073709551616) : swapN n < 18446744073709551616 := by
  unfold swapN
  exact Nat.or_lt_two_pow (n := 64) (Nat.mod_lt _ (by decide)) (by omega)
theorem xor_lt (a b : Nat) (ha : a < 18446744073709551616) (hb : b < 18446744073709551616) : a ^^^ b < 18446744073709551616 := Nat.xor_lt_two_pow (n := 64) ha hb
theorem bits_xor_u32_nat (a b : Nat) (ha : a < 4294967296) (hb : b < 4294967296) : bits .xor .u32 (a : Int) (b : Int) = ((a ^^^ b : Nat) : Int) := by
  have hx : a ^^^ b < 2 ^ 32 := Nat.xor_lt_two_pow (by omega) (by omega)
  have h1 : (BitVec.ofInt 32 (a : Int)).toNat = a := by
    rw [BitVec.ofInt_natCast, BitVec.toNat_ofNat]; exact Nat.mod_eq_of_lt (by omega)
  have h2 : (BitVec.ofInt 32 (b : Int)).toNat = b := by
    rw [BitVec.ofInt_natCast, BitVec.toNat_ofNat]; exact Nat.mod_eq_of_lt (by omega)
  have h3 : IntKind.u32.wrap ((a ^^^ b : Nat) : Int) = ((a ^^^ b : Nat) : Int) % 4294967296 := by simp [IntKind.wrap, IntKind.bits, IntKind.signed]
  show IntKind.u32.wrap ((BitVec.ofInt 32 (a : Int) ^^^ BitVec.ofInt 32 (b : Int)).toNat : Int) = _
  rw [BitVec.toNat_xor, h1, h2, h3]
  omega
theorem foldN_lt (n : Nat) : foldN n < 4294967296 := Nat.mod_lt _ (by decide)

theorem law_xor (a b : Nat) (ha : a < 18446744073709551616) (hb : b < 18446744073709551616) : foldI (bits .xor .u64 a b) = bits .xor .u32 (foldI a) (foldI b) := by
  rw [bits_xor_u64_nat a b ha hb, foldI_nat _ (xor_lt a b ha hb), foldI_nat a ha, foldI_nat b hb, bits_xor_u32_nat _ _ (foldN_lt a) (foldN_lt b), foldN_xor]
theorem law_swap (a : Nat) (ha : a < 18446744073709551616) : foldI (swapI a) = foldI a := by
  rw [swapI_nat a ha, foldI_nat _ (swapN_lt a ha), foldI_nat a ha, foldN_swap a ha]
theorem law_low (a : Nat) (ha : a < 18446744073709551616) : foldI (bits .and .u64 a 4294967295) = (a : Int) % 4294967296 := by
  have e := bits_and_u64_nat a 4294967295 ha (by omega)
  rw [show ((4294967295 : Nat) : Int) = 4294967295 from rfl] at e
  rw [e, foldI_nat _ (Nat.lt_of_le_of_lt Nat.and_le_left ha), foldN_low]
  omega
theorem law_collide (a b : Nat) (ha : a < 18446744073709551616) (hb : b < 18446744073709551616) :
    (foldI a = foldI b) ↔ (bits .xor .u64 a b % 4294967296 = bits .xor .u64 a b / 4294967296 % 4294967296) := by
  rw [bits_xor_u64_nat a b ha hb, foldI_nat a ha, foldI_nat b hb]
  have h := foldN_collide a b
  generalize a ^^^ b = d at h
  omega

/-! ### The contracts -/
theorem fold_any (x : Int) (h0 : 0 ≤ x) (h1 : x ≤ 18446744073709551615) (w : World) :
    Calls Try.prog 9 #[.int .u64 x] w fun e w' => e = .returned (.int .u32 (foldI x)) ∧ w' = w := by
  go_enter Try.func9, Try.ntmps9
  go_wp2
  go_ret
  exact ⟨rfl, rfl⟩
theorem swap_any (x : Int) (h0 : 0 ≤ x) (h1 : x ≤ 18446744073709551615) (w : World) :
    Calls Try.prog 10 #[.int .u64 x] w fun e w' => e = .returned (.int .u64 (swapI x)) ∧ w' = w := by
  go_enter Try.func10, Try.ntmps10
  go_wp2
  go_ret
  exact ⟨rfl, rfl⟩
end Go.Proofs.Qxb6614059a
