import Derived.Test.Qxb6613997aHolds
import Derived.OwnWalk
namespace Go.Proofs.Qxb6613997a.Joined
open Go.RowKit
set_option linter.unusedVariables false

theorem info4 : (Try.prog.info? 4).map (fun i => (i.zero, i.size, i.bytes)) = some (some (.bool false), 1, 1) := by kernel_rfl

/-- The bound on the sum of the lengths. -/
theorem bytes_yes (a0 a1 : Option Addr) (lp cp lq cq : Nat) (i : Int) (w : World) (h : lp + lq ≤ 1048576) :
    Calls Try.prog 10 #[.slice a0 lp cp, .slice a1 lq cq, .int .i64 i] w fun e w' => e = .returned (.bool true) ∧ w' = w := by
  have h1 : ¬ (1048576 : Int) < (lp : Int) := by omega
  have h2 : ¬ (1048576 : Int) < (lq : Int) := by omega
  have h3 : ¬ (1048576 : Int) < (lp : Int) + (lq : Int) := by omega
  go_enter Try.func10, Try.ntmps10
  go_wp2
  go_ret
  exact ⟨rfl, rfl⟩

theorem bytes_no (a0 a1 : Option Addr) (lp cp lq cq : Nat) (i : Int) (w : World) (hp : lp ≤ maxLen) (hq : lq ≤ maxLen) (h : 1048576 < lp + lq) :
    Calls Try.prog 10 #[.slice a0 lp cp, .slice a1 lq cq, .int .i64 i] w fun e w' => e = .returned (.bool false) ∧ w' = w := by
  by_cases h1 : 1048576 < lp
  · have h1' : (1048576 : Int) < (lp : Int) := by omega
    go_enter Try.func10, Try.ntmps10
    go_wp2
    go_ret
    exact ⟨rfl, rfl⟩
  · have h1' : ¬ (1048576 : Int) < (lp : Int) := by omega
    by_cases h2 : 1048576 < lq
    · have h2' : (1048576 : Int) < (lq : Int) := by omega
      go_enter Try.func10, Try.ntmps10
      go_wp2
      go_ret
      exact ⟨rfl, rfl⟩
    · have h2' : ¬ (1048576 : Int) < (lq : Int) := by omega
      have h3 : (1048576 : Int) < (lp : Int) + (lq : Int) := by omega
      go_enter Try.func10, Try.ntmps10
      go_wp2
      go_ret
      exact ⟨rfl, rfl⟩

/-- A row of bools as cells. -/
def rowB (B : Nat → Bool) (n : Nat) : List Value := (List.range n).map fun j => .bool (B j)
theorem rowB_len (B : Nat → Bool) (n : Nat) : (rowB B n).length = n * 1 := by simp [rowB]
theorem rowB_one (B : Nat → Bool) (n : Nat) : ∀ u ∈ rowB B n, u.oneCell' = true := by
  intro u hu
  obtain ⟨_, _, rfl⟩ := List.mem_map.1 hu
  rfl
theorem rowB_some (B : Nat → Bool) (n j : Nat) (u : Value) (h : (rowB B n)[j]? = some u) : j < n ∧ u = .bool (B j) := by
  obtain ⟨h1, h2⟩ := List.getElem?_eq_some_iff.1 h
  simp [rowB] at h1 h2
  exact ⟨h1, h2.symm⟩
theorem rowB_left (P Q : Nat → Bool) (n m j : Nat) (h : j < n) : (rowB P n ++ rowB Q m)[j]? = some (.bool (P j)) := by
  rw [List.getElem?_append_left (by simpa [rowB] using h)]; simp [rowB, h]
theorem rowB_right (P Q : Nat → Bool) (n m j : Nat) (h : j < m) : (rowB P n ++ rowB Q m)[n + j]? = some (.bool (Q j)) := by
  rw [List.getElem?_append_right (by simp [rowB])]; simp [rowB, h]

/-- What a walk is told of a slice of bools, nil or not. -/
def Cells (w : World) (a : Option Addr) (len cap : Nat) (B : Nat → Bool) : Prop :=
  (a = none → len = 0 ∧ cap = 0) ∧ ∀ ad, a = some ad → ∀ k, k < len → w.cell? (ad.add k) = some (.bool (B k))

theorem Cells.below {w w' : World} {a : Option Addr} {len cap : Nat} {B : Nat → Bool} (h : Cells w a len cap B) (hb : Below w.heap.size w w') : Cells w' a len cap B :=
  ⟨h.1, fun ad e k hk => (hb.cell (p := ad.add k) (World.block_lt_of_cell? w _ (h.2 ad e k hk))).trans (h.2 ad e k hk)⟩

/-- 'Holds' over a slice that is told so. -/
theorem holds_at (b : Nat) (a : Option Addr) (len cap : Nat) (i : Int) (B : Nat → Bool) (w : World) (hc : w.cell? ⟨b, 4, none⟩ = some (.slice a len cap)) (h0 : 0 ≤ i) (h : i < (len : Int)) (hm : len ≤ maxLen) (hv : Cells w a len cap B) :
    Calls Try.prog 9 #[.pointer (some ⟨b, 0, none⟩), .int .i64 i] w fun e w' => e = .returned (.bool (!B i.toNat)) ∧ w' = w := by
  obtain ⟨k, rfl⟩ := Int.eq_ofNat_of_zero_le h0
  rw [Int.toNat_natCast]
  cases a with
  | none => have := (hv.1 rfl).1; omega
  | some x => exact holds_in b x len cap k (B k) w hc (by omega) hm (hv.2 x rfl k (by omega))

/-- The bools of the joined slice. -/
def joinB (P Q : Nat → Bool) (lp : Nat) (j : Nat) : Bool := if j < lp then P j else Q (j - lp)
theorem joinB_left (P Q : Nat → Bool) (lp : Nat) (i : Int) (h0 : 0 ≤ i) (h : i < (lp : Int)) : joinB P Q lp i.toNat = P i.toNat := by
  unfold joinB; rw [if_pos (by omega)]
theorem joinB_right (P Q : Nat → Bool) (lp : Nat) (i : Int) (h : (lp : Int) ≤ i) : joinB P Q lp i.toNat = Q (i - lp).toNat := by
  unfold joinB; rw [if_neg (by omega)]; congr 1; omega

theorem cells_joined {w : World} {b lp lq : Nat} {P Q : Nat → Bool} (h : w.ownsRow b 4 1 (.slice (some ⟨b, 0, none⟩) (lp + lq) (lp + lq)) (lp + lq) (rowB P lp ++ rowB Q lq)) :
    Cells w (some ⟨b, 0, none⟩) (lp + lq) (lp + lq) (joinB P Q lp) := by
  refine ⟨fun e => (by cases e), fun ad e k hk => ?_⟩
  cases e
  rw [Go.WideShapes.add_plain, Nat.zero_add, h.cellAt k (by omega)]
  unfold joinB
  by_cases hl : k < lp
  · rw [rowB_left P Q lp lq k hl]; simp [hl]
  · obtain ⟨j, rfl⟩ : ∃ j, k = lp + j := ⟨k - lp, by omega⟩
    rw [rowB_right P Q lp lq j (by omega), if_neg hl, Nat.add_sub_cancel_left]

set_option maxHeartbeats 400000 in
theorem core (a0 a1 : Option Addr) (lp cp lq cq : Nat) (P Q : Nat → Bool) (i : Int) (w : World) (hP : Cells w a0 lp cp P) (hQ : Cells w a1 lq cq Q)
    (h1 : lp ≤ 524288) (h2 : lq ≤ 524288) (hi : 0 ≤ i) (hi2 : i ≤ 9223372036854775807) :
    Calls Try.prog 4 #[.slice a0 lp cp, .slice a1 lq cq, .int .i64 i] w fun e w' => e = .returned (.bool true) ∧ Below w.heap.size w w' := by
  obtain ⟨i0, hi0, hz0, hz1, hz2⟩ := info_parts info4
  have g1 : ¬ (524288 : Int) < (lp : Int) := by omega
  have g2 : ¬ (524288 : Int) < (lq : Int) := by omega
  have g3 : ¬ i < 0 := by omega
  go_enter Try.func4, Try.ntmps4
  go_wp2_with fail
  refine (bytes_yes a0 a1 lp cp lq cq i _ (by omega)).mono ?_
  rintro e w ⟨rfl, rfl⟩
  go_wp2_with (first
    | (at_make; refine wpList_make_own _ rfl _ _ 22 rfl w.heap.size 4 i0 (.bool false) 1 Try.underlying22 hi0 hz0 hz1 _ _ _ (lp + lq) rfl rfl (by omega) (by rw [hz2]; omega) (by unfold maxLen; omega) (Nat.le_refl _) ?_; intro w1 hown1 hgrow1; have hb1 : Below w.heap.size w w1 := (Below.refl _ _).grown hgrow1 (Nat.le_refl _) (fun _ h => by cases h); have hP1 := hP.below hb1; clear hgrow1)
    | (at_builtin; refine wpList_append_fits_any _ rfl (.tmp 30) (.tmp 31) 22 rfl w.heap.size 4 i0 1 Try.underlying22 hi0 hz1 w.heap.size 0 (lp + lq) [] rfl hown1 a0 lp cp (rowB P lp) rfl (rowB_len P lp) hP1.1 (fun ad e j u hu => by obtain ⟨hj, rfl⟩ := rowB_some P lp j u hu; exact hP1.2 ad e j hj) (rowB_one P lp) (by omega) ?_; intro w2 hown2 hgrow2; simp only [Nat.zero_add, List.nil_append] at hown2; have hb2 : Below w.heap.size w w2 := hb1.grown hgrow2 hb1.size (fun _ h => by cases h; exact Nat.le_refl _); have hQ2 := hQ.below hb2; clear hgrow2 hown1 hP1)
    | (at_builtin; refine wpList_append_fits_any _ rfl (.tmp 33) (.tmp 34) 22 rfl w.heap.size 4 i0 1 Try.underlying22 hi0 hz1 w.heap.size lp (lp + lq) (rowB P lp) rfl hown2 a1 lq cq (rowB Q lq) rfl (rowB_len Q lq) hQ2.1 (fun ad e j u hu => by obtain ⟨hj, rfl⟩ := rowB_some Q lq j u hu; exact hQ2.2 ad e j hj) (rowB_one Q lq) (by omega) ?_; intro w3 hown3 hgrow3; have hb3 : Below w.heap.size w w3 := hb2.grown hgrow3 hb2.size (fun _ h => by cases h; exact Nat.le_refl _); clear hgrow3 hown2 hQ2))
  have hz3 := hb3.size
  have hb4 : ∀ o, Below w.heap.size w (w3.alloc o) := fun o => hb3.alloc hz3 o
  have hb5 : ∀ o o', Below w.heap.size w ((w3.alloc o).alloc o') := fun o o' => (hb4 o).alloc (by simp; omega) o'
  have hR : ∀ o, Cells (w3.alloc o) (some ⟨w.heap.size, 0, none⟩) (lp + lq) (lp + lq) (joinB P Q lp) := fun o => cells_joined (hown3.alloc o)
  clear hown3
  by_cases hip : i < (lp : Int)
  · refine (holds_at w3.heap.size (some ⟨w.heap.size, 0, none⟩) (lp + lq) (lp + lq) i _ _ (by simp [go_sem]) hi (by omega) (by unfold maxLen; omega) (hR _)).mono ?_
    rintro e w4 ⟨rfl, rfl⟩
    rw [joinB_left P Q lp i hi hip]
    go_wp2_with fail
    refine (holds_at (w3.heap.size + 1) a0 lp cp i P _ (by simp [go_sem]) hi hip (by unfold maxLen; omega) (hP.below (hb5 _ _))).mono ?_
    rintro e w4 ⟨rfl, rfl⟩
    go_wp2_with fail
    refine (holds_past w3.heap.size (some ⟨w.heap.size, 0, none⟩) (lp + lq) (lp + lq) _ _ (by simp [go_sem]) (by omega)).mono ?_
    rintro e w4 ⟨rfl, rfl⟩
    go_wp2
    go_ret
    exact ⟨by simp, hb5 _ _⟩
  · by_cases hiq : i < (lp : Int) + (lq : Int)
    · refine (holds_at w3.heap.size (some ⟨w.heap.size, 0, none⟩) (lp + lq) (lp + lq) i _ _ (by simp [go_sem]) hi (by omega) (by unfold maxLen; omega) (hR _)).mono ?_
      rintro e w4 ⟨rfl, rfl⟩
      rw [joinB_right P Q lp i (by omega)]
      go_wp2_with fail
      refine (holds_at (w3.heap.size + 1) a1 lq cq (i - lp) Q _ (by simp [go_sem]) (by omega) (by omega) (by unfold maxLen; omega) (hQ.below (hb5 _ _))).mono ?_
      rintro e w4 ⟨rfl, rfl⟩
      go_wp2_with fail
      refine (holds_past w3.heap.size (some ⟨w.heap.size, 0, none⟩) (lp + lq) (lp + lq) _ _ (by simp [go_sem]) (by omega)).mono ?_
      rintro e w4 ⟨rfl, rfl⟩
      go_wp2
      go_ret
      exact ⟨by simp, hb5 _ _⟩
    · refine (holds_past w3.heap.size (some ⟨w.heap.size, 0, none⟩) (lp + lq) (lp + lq) i _ (by simp [go_sem]) (by omega)).mono ?_
      rintro e w4 ⟨rfl, rfl⟩
      go_wp2_with fail
      refine (holds_past (w3.heap.size + 1) a1 lq cq (i - lp) _ (by simp [go_sem]) (by omega)).mono ?_
      rintro e w4 ⟨rfl, rfl⟩
      go_wp2_with fail
      refine (holds_past w3.heap.size (some ⟨w.heap.size, 0, none⟩) (lp + lq) (lp + lq) _ _ (by simp [go_sem]) (by omega)).mono ?_
      rintro e w4 ⟨rfl, rfl⟩
      go_wp2
      go_ret
      exact ⟨by simp, hb5 _ _⟩

/-- The short ways out. -/
theorem short (a0 a1 : Option Addr) (lp cp lq cq : Nat) (i : Int) (w : World) (hp : lp ≤ maxLen) (hq : lq ≤ maxLen) (h : 1048576 < lp + lq ∨ 524288 < lp ∨ 524288 < lq ∨ i < 0) :
    Calls Try.prog 4 #[.slice a0 lp cp, .slice a1 lq cq, .int .i64 i] w fun e w' => e = .returned (.bool true) ∧ Below w.heap.size w w' := by
  by_cases h0 : 1048576 < lp + lq
  · go_enter Try.func4, Try.ntmps4
    go_wp2_with fail
    refine (bytes_no a0 a1 lp cp lq cq i _ hp hq h0).mono ?_
    rintro e w ⟨rfl, rfl⟩
    go_wp2_with fail
    go_ret
    exact ⟨rfl, Below.refl _ _⟩
  · by_cases h1 : 524288 < lp
    · have g1 : (524288 : Int) < (lp : Int) := by omega
      go_enter Try.func4, Try.ntmps4
      go_wp2_with fail
      refine (bytes_yes a0 a1 lp cp lq cq i _ (by omega)).mono ?_
      rintro e w ⟨rfl, rfl⟩
      go_wp2_with fail
      go_ret
      exact ⟨rfl, Below.refl _ _⟩
    · have g1 : ¬ (524288 : Int) < (lp : Int) := by omega
      by_cases h2 : 524288 < lq
      · have g2 : (524288 : Int) < (lq : Int) := by omega
        go_enter Try.func4, Try.ntmps4
        go_wp2_with fail
        refine (bytes_yes a0 a1 lp cp lq cq i _ (by omega)).mono ?_
        rintro e w ⟨rfl, rfl⟩
        go_wp2_with fail
        go_ret
        exact ⟨rfl, Below.refl _ _⟩
      · have g2 : ¬ (524288 : Int) < (lq : Int) := by omega
        have g3 : i < 0 := by omega
        go_enter Try.func4, Try.ntmps4
        go_wp2_with fail
        refine (bytes_yes a0 a1 lp cp lq cq i _ (by omega)).mono ?_
        rintro e w ⟨rfl, rfl⟩
        go_wp2_with fail
        go_ret
        exact ⟨rfl, Below.refl _ _⟩
end Go.Proofs.Qxb6613997a.Joined
