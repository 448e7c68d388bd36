import Derived.Test.Qxb6613997aHolds
import Derived.OwnWalk
namespace Go.Proofs.Qxb6613997a
open Go.RowKit
set_option linter.unusedVariables false

theorem Try.info4 : (Try.prog.info? 4).map (fun i => (i.zero, i.size, i.bytes)) = some (some (.bool false), 1, 1) := by kernel_rfl

/-- The row of 'neg' behind k rounds. -/
def negRow (B : Nat → Bool) (n k : Nat) : List Value := (List.range n).map fun j => .bool (if j < k then !B j else false)
theorem negRow_zero (B : Nat → Bool) (n : Nat) : negRow B n 0 = List.replicate n (.bool false) := by
  apply List.ext_getElem <;> simp [negRow]
theorem made_false (n : Nat) : (madeCells (Value.bool false).cells (n * 1)).toList = List.replicate n (.bool false) := by
  apply List.ext_getElem
  · simp [madeCells]
  · intro i h1 h2
    simp [madeCells, Value.cells, Nat.mod_one]
theorem negRow_set (B : Nat → Bool) (n k : Nat) : (negRow B n k).set k (.bool (!B k)) = negRow B n (k + 1) := by
  apply List.ext_getElem
  · simp [negRow]
  · intro i h1 h2
    simp only [negRow, List.getElem_set, List.getElem_map, List.getElem_range]
    by_cases h : k = i
    · subst h; simp
    · rw [if_neg h]
      by_cases h' : i < k
      · rw [if_pos h', if_pos (by omega)]
      · rw [if_neg h', if_neg (by omega)]
theorem negRow_at (B : Nat → Bool) (n k j : Nat) (h : j < n) (hk : j < k) : (negRow B n k)[j]? = some (.bool (!B j)) := by
  simp [negRow, h, hk]

theorem negRow_k (B : Nat → Bool) (n k : Nat) (h : k < n) : (negRow B n k)[k]? = some (.bool false) := by
  simp [negRow, h]

set_option maxHeartbeats 400000 in
theorem flips_some (x : Addr) (len cap : Nat) (B : Nat → Bool) (i : Int) (w : World) (hl : len ≤ cap) (hm : cap ≤ maxLen) (hcell : ∀ k, k < len → w.cell? (x.add k) = some (.bool (B k)))
    (wi : (Lit.int .i64 i).wf = true) (hlen : len ≤ 1048576) (hi : 0 ≤ i) :
    Calls Try.prog 3 #[.slice (some x) len cap, .int .i64 i] w fun e w' => e = .returned (.bool true) ∧ Below w.heap.size w w' := by
  obtain ⟨i0, hi0, hz0, hz1, hz2⟩ := info_parts Try.info4
  have h1 : ¬ (1048576 : Int) < (len : Int) := by omega
  have h2 : ¬ i < 0 := by omega
  go_enter Try.func3, Try.ntmps3
  go_wp2_with (first
    | (at_make; refine wpList_make_full _ rfl _ _ 22 rfl w.heap.size 4 i0 (.bool false) 1 Try.underlying22 hi0 hz0 hz1 _ _ _ _ len rfl rfl rfl rfl (by rw [hz2]; omega) (by unfold maxLen; omega) (Nat.le_refl _) ?_; intro w1 hown hgrow)
    | go_in)
  rw [made_false, ← negRow_zero B] at hown
  have hb1 : Below w.heap.size w w1 := (Below.refl _ _).grown hgrow (Nat.le_refl _) (fun _ h => by cases h)
  clear hgrow
  go_loopw [6] (fun i wr => ∃ k : Nat, k ≤ len ∧ i = .int .i64 k ∧ wr.ownsRow w.heap.size 4 1 (.slice (some ⟨w.heap.size, 0, none⟩) len len) len (negRow B len k) ∧ Below w.heap.size w wr) (fun i _ => len - (intOf i).toNat)
  case atStart => exact ⟨0, Nat.zero_le _, rfl, hown, hb1⟩
  case round =>
    obtain ⟨k, hk, rfl, ho, hb⟩ := hrel
    by_cases hlt : k < len
    · have hlt' : (k : Int) < (len : Int) := by omega
      have c1 : wr.cell? (x.add k) = some (.bool (B k)) := by rw [← hcell k hlt]; exact hb.cell (p := x.add k) (World.block_lt_of_cell? w _ (hcell k hlt))
      have f1 := ho.frozenAt k
      have c2 := ho.cellAt k (by omega)
      rw [negRow_k B len k hlt] at c2
      have hs := ho.stored k (.bool (!B k))
      rw [negRow_set] at hs
      obtain ⟨hs1, hs2⟩ := hs
      have hb2 := hb.grown hs2 hb.size (fun _ h => by cases h; exact Nat.le_refl _)
      clear hs2
      go_wp2
      go_roundw
      case rel => exact ⟨k + 1, by omega, by go_num, hs1, hb2⟩
      case measure => simp [intOf]; omega
    · obtain rfl : k = len := by omega
      have hsz := hb.size
      by_cases hik : i < (k : Int)
      · obtain ⟨j, rfl⟩ := Int.eq_ofNat_of_zero_le hi
        have hjk : j < k := by omega
        have d1 : ∀ o, (wr.alloc o).cell? (x.add j) = some (.bool (B j)) := fun o => by
          rw [← hcell j hjk]; exact (hb.alloc hsz o).cell (p := x.add j) (World.block_lt_of_cell? w _ (hcell j hjk))
        have d2 : ∀ o o', ((wr.alloc o).alloc o').cell? ⟨w.heap.size, j, none⟩ = some (.bool (!B j)) := fun o o' => by
          rw [((ho.alloc o).alloc o').cellAt j (by omega)]; exact negRow_at B k k j hjk hjk
        have hbe : ∀ o o', Below w.heap.size w ((wr.alloc o).alloc o') := fun o o' => (hb.alloc hsz o).alloc (by simp; omega) o'
        go_wp2_with fail
        refine (holds_in wr.heap.size x k cap j (B j) _ (by simp [go_sem]) hjk (by omega) (d1 _)).mono ?_
        rintro e w' ⟨rfl, rfl⟩
        go_wp2_with fail
        refine (holds_in (wr.heap.size + 1) ⟨w.heap.size, 0, none⟩ k k j (!B j) _ (by simp [go_sem]) hjk (by omega) (by rw [Go.WideShapes.add_plain, Nat.zero_add]; exact d2 _ _)).mono ?_
        rintro e w' ⟨rfl, rfl⟩
        go_wp2
        go_ret
        exact ⟨by simp, hbe _ _⟩
      · have hki : (k : Int) ≤ i := by omega
        have hbe : ∀ o o', Below w.heap.size w ((wr.alloc o).alloc o') := fun o o' => (hb.alloc hsz o).alloc (by simp; omega) o'
        go_wp2_with fail
        refine (holds_past wr.heap.size (some x) k cap i _ (by simp [go_sem]) hki).mono ?_
        rintro e w' ⟨rfl, rfl⟩
        go_wp2_with fail
        refine (holds_past (wr.heap.size + 1) (some ⟨w.heap.size, 0, none⟩) k k i _ (by simp [go_sem]) hki).mono ?_
        rintro e w' ⟨rfl, rfl⟩
        go_wp2
        go_ret
        exact ⟨by simp, hbe _ _⟩

set_option maxHeartbeats 400000 in
theorem flips_none (i : Int) (w : World) (wi : (Lit.int .i64 i).wf = true) (hi : 0 ≤ i) :
    Calls Try.prog 3 #[.slice none 0 0, .int .i64 i] w fun e w' => e = .returned (.bool true) ∧ Below w.heap.size w w' := by
  obtain ⟨i0, hi0, hz0, hz1, hz2⟩ := info_parts Try.info4
  have h2 : ¬ i < 0 := by omega
  go_enter Try.func3, Try.ntmps3
  go_wp2_with (first
    | (at_make; refine wpList_make_full _ rfl _ _ 22 rfl w.heap.size 4 i0 (.bool false) 1 Try.underlying22 hi0 hz0 hz1 _ _ _ _ 0 rfl rfl rfl rfl (by rw [hz2]; omega) (by unfold maxLen; omega) (Nat.le_refl _) ?_; intro w1 hown hgrow)
    | go_in)
  have hb : Below w.heap.size w w1 := (Below.refl _ _).grown hgrow (Nat.le_refl _) (fun _ h => by cases h)
  clear hgrow
  refine wp_loop_rounds 1 ?_
  rw [rounds_succ]
  have hsz := hb.size
  have hki : ((0 : Nat) : Int) ≤ i := by omega
  have hbe : ∀ o o', Below w.heap.size w ((w1.alloc o).alloc o') := fun o o' => (hb.alloc hsz o).alloc (by simp; omega) o'
  go_wp2_with fail
  refine (holds_past w1.heap.size none 0 0 i _ (by simp [go_sem]) hki).mono ?_
  rintro e w' ⟨rfl, rfl⟩
  go_wp2_with fail
  refine (holds_past (w1.heap.size + 1) (some ⟨w.heap.size, 0, none⟩) 0 0 i _ (by simp [go_sem]) hki).mono ?_
  rintro e w' ⟨rfl, rfl⟩
  go_wp2
  go_ret
  exact ⟨by simp, hbe _ _⟩

/-- The short ways out: a slice that is too long, an index below zero. -/
theorem flips_long (a : Option Addr) (len cap : Nat) (i : Int) (w : World) (hm : len ≤ maxLen) (h : 1048576 < len) :
    Calls Try.prog 3 #[.slice a len cap, .int .i64 i] w fun e w' => e = .returned (.bool true) ∧ Below w.heap.size w w' := by
  have h1 : (1048576 : Int) < (len : Int) := by omega
  go_enter Try.func3, Try.ntmps3
  go_wp2
  go_ret
  exact ⟨rfl, Below.refl _ _⟩
theorem flips_neg (a : Option Addr) (len cap : Nat) (i : Int) (w : World) (hm : len ≤ maxLen) (h : len ≤ 1048576) (hi : i < 0) :
    Calls Try.prog 3 #[.slice a len cap, .int .i64 i] w fun e w' => e = .returned (.bool true) ∧ Below w.heap.size w w' := by
  have h1 : ¬ (1048576 : Int) < (len : Int) := by omega
  go_enter Try.func3, Try.ntmps3
  go_wp2
  go_ret
  exact ⟨rfl, Below.refl _ _⟩
end Go.Proofs.Qxb6613997a
