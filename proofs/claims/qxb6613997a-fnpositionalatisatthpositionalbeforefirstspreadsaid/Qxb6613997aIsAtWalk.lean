import Derived.Test.Qxb6613997aArgs
import Derived.Test.Qxb6613997aPos
namespace Go.Proofs.Qxb6613997a.IsAt
open Go.RowKit
set_option linter.unusedVariables false

theorem info3 : (Try.prog.info? 3).map (fun i => (i.zero, i.size, i.bytes)) = some (some (.int .i64 0), 1, 8) := by kernel_rfl

theorem bytes_yes (a : Option Addr) (n cap : Nat) (z : Int) (w : World) (h : n ≤ 1048576) :
    Calls Try.prog 11 #[.slice a n cap, .int .i64 z] w fun e w' => e = .returned (.bool true) ∧ w' = w := by
  have h1 : ¬ (1048576 : Int) < (n : Int) := by omega
  go_enter Try.func11, Try.ntmps11
  go_wp2
  go_ret
  exact ⟨rfl, rfl⟩
theorem bytes_no (a : Option Addr) (n cap : Nat) (z : Int) (w : World) (hn : n ≤ maxLen) (h : 1048576 < n) :
    Calls Try.prog 11 #[.slice a n cap, .int .i64 z] w fun e w' => e = .returned (.bool false) ∧ w' = w := by
  have h1 : (1048576 : Int) < (n : Int) := by omega
  go_enter Try.func11, Try.ntmps11
  go_wp2
  go_ret
  exact ⟨rfl, rfl⟩

theorem short (a : Option Addr) (n cap : Nat) (z : Int) (w : World) (hn : n ≤ maxLen) (h : 65536 < n) :
    Calls Try.prog 5 #[.slice a n cap, .int .i64 z] w fun e w' => e = .returned (.bool true) ∧ Below w.heap.size w w' := by
  by_cases h0 : 1048576 < n
  · go_enter Try.func5, Try.ntmps5
    go_wp2_with fail
    refine (bytes_no a n cap z _ hn h0).mono ?_
    rintro e w ⟨rfl, rfl⟩
    go_wp2_with fail
    go_ret
    exact ⟨rfl, Below.refl _ _⟩
  · have h1 : (65536 : Int) < (n : Int) := by omega
    go_enter Try.func5, Try.ntmps5
    go_wp2_with fail
    refine (bytes_yes a n cap z _ (by omega)).mono ?_
    rintro e w ⟨rfl, rfl⟩
    go_wp2_with fail
    go_ret
    exact ⟨rfl, Below.refl _ _⟩

/-- The row of 'pos'. -/
def posRow (l : List Int) (k : Nat) : List Value := (pidx (l.take k) 0).map fun j : Nat => .int .i64 (j : Int)
theorem posRow_len (l : List Int) (k : Nat) : (posRow l k).length = (pidx (l.take k) 0).length := by simp [posRow]

theorem posRow_hit (l : List Int) (j : Nat) (h : j < l.length) (h0 : l.getD j 0 = 0) : posRow l (j + 1) = posRow l j ++ [.int .i64 (j : Int)] := by
  unfold posRow; rw [pidx_take_succ l j h, if_pos h0, List.map_append]; rfl
theorem posRow_miss (l : List Int) (j : Nat) (h : j < l.length) (h0 : ¬ l.getD j 0 = 0) : posRow l (j + 1) = posRow l j := by
  unfold posRow; rw [pidx_take_succ l j h, if_neg h0, List.append_nil]
theorem pidx_hit (l : List Int) (j : Nat) (h : j < l.length) (h0 : l.getD j 0 = 0) : (pidx (l.take (j + 1)) 0).length = (pidx (l.take j) 0).length + 1 := by
  rw [pidx_take_succ l j h, if_pos h0]; simp
theorem pidx_miss (l : List Int) (j : Nat) (h : j < l.length) (h0 : ¬ l.getD j 0 = 0) : (pidx (l.take (j + 1)) 0).length = (pidx (l.take j) 0).length := by
  rw [pidx_take_succ l j h, if_neg h0]; simp
theorem pidx_le (l : List Int) (j : Nat) : (pidx (l.take j) 0).length ≤ j := by
  have h1 := pidx_len (l.take j) 0
  have h2 : (l.take j).length ≤ j := List.length_take_le _ _
  omega
theorem posRow_at (l : List Int) (k m : Nat) (h : m < (pidx (l.take k) 0).length) : (posRow l k)[m]? = some (.int .i64 ((pidx (l.take k) 0).getD m 0 : Int)) := by
  simp [posRow, h]

theorem hgrow3_cell {w w' : World} {p : Addr} (h : w.grownBy w' none) (hp : p.block < w.heap.size) : w'.cell? p = w.cell? p :=
  World.cell?_of_block (h.block p.block hp (by simp))
theorem one_new (w : World) (v : Value) (t : TypeId) : ∀ j u, [v][j]? = some u → (w.alloc (.cells #[v] t)).cell? ((⟨w.heap.size, 0, none⟩ : Addr).add j) = some u := by
  intro j u hj
  match j, hj with
  | 0, hj => simp at hj; subst hj; simp [Addr.add, go_sem]

set_option maxHeartbeats 1000000 in
theorem core_some (x : Addr) (n cap : Nat) (l : List Int) (z : Int) (w : World) (hl : l.length = n) (hI : Ints w (some x) n cap l) (hn : n ≤ 65536) (hz1 : -9223372036854775808 ≤ z) (hz2 : z ≤ 9223372036854775807) :
    Calls Try.prog 5 #[.slice (some x) n cap, .int .i64 z] w fun e w' => e = .returned (.bool true) ∧ Below w.heap.size w w' := by
  obtain ⟨i0, hi0, hy0, hy1, hy2⟩ := info_parts info3
  have g1 : ¬ (65536 : Int) < (n : Int) := by omega
  go_enter Try.func5, Try.ntmps5
  go_wp2_with fail
  refine (bytes_yes (some x) n cap z _ (by omega)).mono ?_
  rintro e w ⟨rfl, rfl⟩
  go_wp2_with fail
  refine (zzargs_any (some x) n cap l _ (by omega) hI).mono ?_
  rintro e w1 ⟨g, s, rfl, hb1, hs1, hs2, hA⟩
  go_wp2_with fail
  refine (posat_any w.heap.size n n l _ z _ (by omega) (by omega) hl hA).mono ?_
  rintro e w2 ⟨rfl, hb2⟩
  have hb : Below w.heap.size w w2 := Below.next hb1 hb2
  have hI2 := hI.below hb
  clear hA hb1 hb2 hs1 hs2 hI
  generalize hR : pa l z 0 = R
  have HR := hide hR
  clear hR
  go_wp2_with fail
  go_loop [8, 9] (fun e i => ∃ k : Nat, k ≤ n ∧ i = .int .i64 k ∧ e = .int .i64 n ∧ Hid (∀ j, j < k → l.getD j 0 ≠ 2)) (fun _ i => n - (intOf i).toNat)
  case atStart => exact ⟨0, Nat.zero_le _, rfl, rfl, fun j hj => absurd hj (Nat.not_lt_zero j)⟩
  case round =>
    obtain ⟨k, hk, rfl, rfl, HE1⟩ := hrel
    by_cases hgo : k < n ∧ l.getD k 0 ≠ 2
    · obtain ⟨hlt, h2⟩ := hgo
      have hlt' : (k : Int) < (n : Int) := by omega
      have c1 := hI2.2 x rfl k hlt
      have t1 : (l.getD k 0 == 2) = false := by simpa using h2
      generalize hK : l.getD k 0 = K at c1 t1 h2
      have HK := hide hK
      clear hK
      go_wp2_with fail
      go_round
      case rel => exact ⟨k + 1, by omega, by go_num, rfl, fun j hj => by
        by_cases e : j = k
        · subst e; rw [HK.out]; exact h2
        · exact HE1.out j (by omega)⟩
      case measure => simp [intOf]; omega
    · have hE2 : k = n ∨ (k < n ∧ l.getD k 0 = 2) := by
        by_cases h : k < n
        · exact .inr ⟨h, Classical.byContradiction fun e => hgo ⟨h, e⟩⟩
        · exact .inl (by omega)
      have hfin := pa_eq l k z 0 HE1.out (by rw [hl]; exact hE2)
      rw [HR.out] at hfin
      have HF := hide hfin
      clear hfin hgo HE1 HR
      have hkl : k ≤ l.length := by omega
      have hcell : ∀ j, j < k → w2.cell? (x.add j) = some (.int .i64 (l.getD j 0)) := fun j hj => hI2.2 x rfl j (by omega)
      have hsz2 := hb.size
      have hxlt : ∀ j, j < k → (x.add j).block < w2.heap.size := fun j hj => World.block_lt_of_cell? w2 _ (hcell j hj)
      by_cases hlt : k < n
      · have hlt' : (k : Int) < (n : Int) := by omega
        have c1 := hI2.2 x rfl k hlt
        have t1 : (l.getD k 0 == 2) = true := by
          rcases hE2 with h | h
          · omega
          · simpa using h.2
        generalize l.getD k 0 = K at c1 t1 hE2
        clear hE2
        go_wp2_with (at_make; refine wpList_make_own _ rfl _ _ 34 rfl w.heap.size 3 i0 (.int .i64 0) 1 Try.underlying34 hi0 hy0 hy1 _ _ _ k rfl rfl (by omega) (by rw [hy2]; omega) (by unfold maxLen; omega) (by exact hsz2) ?_; intro w3 hown3 hgrow3)
        have hb3 : Below w.heap.size w w3 := hb.grown hgrow3 hsz2 (fun _ h => by cases h)
        have hcell3 : ∀ j, j < k → w3.cell? (x.add j) = some (.int .i64 (l.getD j 0)) := fun j hj => (hgrow3_cell hgrow3 (World.block_lt_of_cell? w2 _ (hcell j hj))).trans (hcell j hj)
        have hsz3 := owns_lt hown3
        clear hgrow3 hcell hI2 hb
        go_loopw [10, 11] (fun v i wr => ∃ j : Nat, j ≤ k ∧ i = .int .i64 j ∧ v = .slice (some ⟨w2.heap.size, 0, none⟩) (pidx (l.take j) 0).length k ∧ wr.ownsRow w.heap.size 3 1 (.slice (some ⟨w2.heap.size, 0, none⟩) (pidx (l.take j) 0).length k) (pidx (l.take j) 0).length (posRow l j) ∧ Below w.heap.size w wr ∧ Below w2.heap.size w3 wr) (fun _ i _ => k - (intOf i).toNat)
        case atStart => exact ⟨0, Nat.zero_le _, rfl, rfl, hown3, hb3, Below.refl _ _⟩
        case round =>
          obtain ⟨j, hj, rfl, rfl, hown, hbr, hbr3⟩ := hrel
          have hmj := pidx_le l j
          have hszr := hbr.size
          have hszr3 := hbr3.size
          by_cases hjk : j < k
          · have hjk' : (j : Int) < (k : Int) := by omega
            have c1 : wr.cell? (x.add j) = some (.int .i64 (l.getD j 0)) := (hbr3.cell (p := x.add j) (hxlt j (by omega))).trans (hcell3 j hjk)
            by_cases h0 : l.getD j 0 = 0
            · have e1 := posRow_hit l j (by omega) h0
              have e2 := pidx_hit l j (by omega) h0
              have t1 : (l.getD j 0 == 0) = true := by simpa using h0
              have R1 := hide e1
              have R2 := hide e2
              clear e1 e2 h0 hown3 hcell3
              generalize l.getD j 0 = K at c1 t1
              generalize (pidx (l.take j) 0).length = m at *
              go_wp2_with (at_builtin; refine wpList_append_fits _ rfl (.tmp 54) (.tmp 56) 34 rfl w.heap.size 3 i0 1 Try.underlying34 hi0 hy1 w2.heap.size m k (posRow l j) rfl (hown.alloc _) ⟨wr.heap.size, 0, none⟩ 1 1 [.int .i64 j] rfl rfl (one_new _ _ _) (fun u hu => by simp at hu; subst hu; rfl) (by omega) ?_; intro w4 hown4 hgrow4)
              have hb4 : Below w.heap.size w w4 := (hbr.alloc hszr _).grown hgrow4 (by simp; omega) (fun _ h => by cases h; omega)
              have hb5 : Below w2.heap.size w3 w4 := (hbr3.alloc (by omega) _).grown hgrow4 (by simp; omega) (fun _ h => by cases h; omega)
              rw [← R1.out, ← R2.out] at hown4
              rw [← R2.out]
              clear hgrow4 hown
              go_wp2
              go_roundw
              case rel => exact ⟨j + 1, by omega, by go_num, rfl, hown4, hb4, hb5⟩
              case measure => simp [intOf]; omega
            · have e1 := posRow_miss l j (by omega) h0
              have e2 := pidx_miss l j (by omega) h0
              have t1 : (l.getD j 0 == 0) = false := by simpa using h0
              rw [← e1, ← e2] at hown
              have R2 := hide e2
              clear e1 e2 h0 hown3 hcell3
              generalize l.getD j 0 = K at c1 t1
              go_wp2
              go_roundw
              case rel => exact ⟨j + 1, by omega, by go_num, by rw [R2.out], hown, hbr, hbr3⟩
              case measure => simp [intOf]; omega
          · have hjk2 : j = k := by omega
            subst hjk2
            clear hcell3 hown3
            by_cases hz : z < 0
            · have hR : R = -1 := by rw [HF.out, if_neg (by omega)]
              subst hR
              clear HF
              generalize (pidx (l.take j) 0).length = m at *
              go_wp2
              go_ret
              exact ⟨rfl, hbr⟩
            · have hz0 : 0 ≤ z := by omega
              by_cases hzm : z < ((pidx (l.take j) 0).length : Int)
              · have c1 := hown.cellAt z.toNat (by omega)
                rw [posRow_at l j z.toNat (by omega)] at c1
                have hR : R = ((pidx (l.take j) 0).getD z.toNat 0 : Int) := by rw [HF.out, if_pos ⟨hz0, hzm⟩]
                rw [← hR] at c1
                clear HF hR hown
                generalize (pidx (l.take j) 0).length = m at *
                go_wp2
                go_ret
                exact ⟨by simp, hbr⟩
              · have hR : R = -1 := by rw [HF.out, if_neg (by omega)]
                subst hR
                clear HF hown
                generalize (pidx (l.take j) 0).length = m at *
                go_wp2
                go_ret
                exact ⟨rfl, hbr⟩
      · have hkn : k = n := by omega
        subst hkn
        clear hE2
        go_wp2_with (at_make; refine wpList_make_own _ rfl _ _ 34 rfl w.heap.size 3 i0 (.int .i64 0) 1 Try.underlying34 hi0 hy0 hy1 _ _ _ k rfl rfl (by omega) (by rw [hy2]; omega) (by unfold maxLen; omega) (by exact hsz2) ?_; intro w3 hown3 hgrow3)
        have hb3 : Below w.heap.size w w3 := hb.grown hgrow3 hsz2 (fun _ h => by cases h)
        have hcell3 : ∀ j, j < k → w3.cell? (x.add j) = some (.int .i64 (l.getD j 0)) := fun j hj => (hgrow3_cell hgrow3 (World.block_lt_of_cell? w2 _ (hcell j hj))).trans (hcell j hj)
        have hsz3 := owns_lt hown3
        clear hgrow3 hcell hI2 hb
        go_loopw [10, 11] (fun v i wr => ∃ j : Nat, j ≤ k ∧ i = .int .i64 j ∧ v = .slice (some ⟨w2.heap.size, 0, none⟩) (pidx (l.take j) 0).length k ∧ wr.ownsRow w.heap.size 3 1 (.slice (some ⟨w2.heap.size, 0, none⟩) (pidx (l.take j) 0).length k) (pidx (l.take j) 0).length (posRow l j) ∧ Below w.heap.size w wr ∧ Below w2.heap.size w3 wr) (fun _ i _ => k - (intOf i).toNat)
        case atStart => exact ⟨0, Nat.zero_le _, rfl, rfl, hown3, hb3, Below.refl _ _⟩
        case round =>
          obtain ⟨j, hj, rfl, rfl, hown, hbr, hbr3⟩ := hrel
          have hmj := pidx_le l j
          have hszr := hbr.size
          have hszr3 := hbr3.size
          by_cases hjk : j < k
          · have hjk' : (j : Int) < (k : Int) := by omega
            have c1 : wr.cell? (x.add j) = some (.int .i64 (l.getD j 0)) := (hbr3.cell (p := x.add j) (hxlt j (by omega))).trans (hcell3 j hjk)
            by_cases h0 : l.getD j 0 = 0
            · have e1 := posRow_hit l j (by omega) h0
              have e2 := pidx_hit l j (by omega) h0
              have t1 : (l.getD j 0 == 0) = true := by simpa using h0
              have R1 := hide e1
              have R2 := hide e2
              clear e1 e2 h0 hown3 hcell3
              generalize l.getD j 0 = K at c1 t1
              generalize (pidx (l.take j) 0).length = m at *
              go_wp2_with (at_builtin; refine wpList_append_fits _ rfl (.tmp 54) (.tmp 56) 34 rfl w.heap.size 3 i0 1 Try.underlying34 hi0 hy1 w2.heap.size m k (posRow l j) rfl (hown.alloc _) ⟨wr.heap.size, 0, none⟩ 1 1 [.int .i64 j] rfl rfl (one_new _ _ _) (fun u hu => by simp at hu; subst hu; rfl) (by omega) ?_; intro w4 hown4 hgrow4)
              have hb4 : Below w.heap.size w w4 := (hbr.alloc hszr _).grown hgrow4 (by simp; omega) (fun _ h => by cases h; omega)
              have hb5 : Below w2.heap.size w3 w4 := (hbr3.alloc (by omega) _).grown hgrow4 (by simp; omega) (fun _ h => by cases h; omega)
              rw [← R1.out, ← R2.out] at hown4
              rw [← R2.out]
              clear hgrow4 hown
              go_wp2
              go_roundw
              case rel => exact ⟨j + 1, by omega, by go_num, rfl, hown4, hb4, hb5⟩
              case measure => simp [intOf]; omega
            · have e1 := posRow_miss l j (by omega) h0
              have e2 := pidx_miss l j (by omega) h0
              have t1 : (l.getD j 0 == 0) = false := by simpa using h0
              rw [← e1, ← e2] at hown
              have R2 := hide e2
              clear e1 e2 h0 hown3 hcell3
              generalize l.getD j 0 = K at c1 t1
              go_wp2
              go_roundw
              case rel => exact ⟨j + 1, by omega, by go_num, by rw [R2.out], hown, hbr, hbr3⟩
              case measure => simp [intOf]; omega
          · have hjk2 : j = k := by omega
            subst hjk2
            clear hcell3 hown3
            by_cases hz : z < 0
            · have hR : R = -1 := by rw [HF.out, if_neg (by omega)]
              subst hR
              clear HF
              generalize (pidx (l.take j) 0).length = m at *
              go_wp2
              go_ret
              exact ⟨rfl, hbr⟩
            · have hz0 : 0 ≤ z := by omega
              by_cases hzm : z < ((pidx (l.take j) 0).length : Int)
              · have c1 := hown.cellAt z.toNat (by omega)
                rw [posRow_at l j z.toNat (by omega)] at c1
                have hR : R = ((pidx (l.take j) 0).getD z.toNat 0 : Int) := by rw [HF.out, if_pos ⟨hz0, hzm⟩]
                rw [← hR] at c1
                clear HF hR hown
                generalize (pidx (l.take j) 0).length = m at *
                go_wp2
                go_ret
                exact ⟨by simp, hbr⟩
              · have hR : R = -1 := by rw [HF.out, if_neg (by omega)]
                subst hR
                clear HF hown
                generalize (pidx (l.take j) 0).length = m at *
                go_wp2
                go_ret
                exact ⟨rfl, hbr⟩

set_option maxHeartbeats 400000 in
theorem core_none (z : Int) (w : World) (hz1 : -9223372036854775808 ≤ z) (hz2 : z ≤ 9223372036854775807) :
    Calls Try.prog 5 #[.slice none 0 0, .int .i64 z] w fun e w' => e = .returned (.bool true) ∧ Below w.heap.size w w' := by
  obtain ⟨i0, hi0, hy0, hy1, hy2⟩ := info_parts info3
  go_enter Try.func5, Try.ntmps5
  go_wp2_with fail
  refine (bytes_yes none 0 0 z _ (by omega)).mono ?_
  rintro e w ⟨rfl, rfl⟩
  go_wp2_with fail
  refine (zzargs_any none 0 0 [] _ (by omega) ⟨fun _ => ⟨rfl, rfl⟩, fun ad e => by cases e⟩).mono ?_
  rintro e w1 ⟨g, s, rfl, hb1, hs1, hs2, hA⟩
  go_wp2_with fail
  refine (posat_any w.heap.size 0 0 [] _ z _ (by omega) (by omega) rfl hA).mono ?_
  rintro e w2 ⟨rfl, hb2⟩
  have hb : Below w.heap.size w w2 := Below.next hb1 hb2
  clear hA hb1 hb2 hs1 hs2
  rw [show pa [] z 0 = -1 from rfl]
  have hsz2 := hb.size
  go_wp2_with fail
  refine wp_loop_rounds 1 ?_
  rw [rounds_succ]
  go_wp2_with (at_make; refine wpList_make_own _ rfl _ _ 34 rfl w.heap.size 3 i0 (.int .i64 0) 1 Try.underlying34 hi0 hy0 hy1 _ _ _ 0 rfl rfl (by omega) (by rw [hy2]; omega) (by unfold maxLen; omega) (by exact hsz2) ?_; intro w3 hown3 hgrow3)
  have hb3 : Below w.heap.size w w3 := hb.grown hgrow3 hsz2 (fun _ h => by cases h)
  clear hown3 hgrow3
  refine wp_loop_rounds 1 ?_
  rw [rounds_succ]
  by_cases hz : z < 0
  · go_wp2
    go_ret
    exact ⟨rfl, hb3⟩
  · have hz0 : 0 ≤ z := by omega
    have hz3 : ¬ z < ((0 : Nat) : Int) := by omega
    go_wp2
    go_ret
    exact ⟨rfl, hb3⟩
end Go.Proofs.Qxb6613997a.IsAt
