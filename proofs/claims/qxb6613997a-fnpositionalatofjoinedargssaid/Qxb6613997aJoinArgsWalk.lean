import Derived.Test.Qxb6613997aArgs
import Derived.Test.Qxb6613997aPos
namespace Go.Proofs.Qxb6613997a.JoinArgs
open Go.RowKit
set_option linter.unusedVariables false

theorem info3 : (Try.prog.info? 3).map (fun i => (i.zero, i.size, i.bytes)) = some (some (.int .i64 0), 1, 8) := by kernel_rfl

theorem bytes_yes (a0 a1 : Option Addr) (lp cp lq cq : Nat) (i : Int) (w : World) (h : lp + lq ≤ 1048576) :
    Calls Try.prog 14 #[.slice a0 lp cp, .slice a1 lq cq, .int .i64 i] w fun e w' => e = .returned (.bool true) ∧ w' = w := by
  have h1 : ¬ (1048576 : Int) < (lp : Int) := by omega
  have h2 : ¬ (1048576 : Int) < (lq : Int) := by omega
  have h3 : ¬ (1048576 : Int) < (lp : Int) + (lq : Int) := by omega
  go_enter Try.func14, Try.ntmps14
  go_wp2
  go_ret
  exact ⟨rfl, rfl⟩

theorem bytes_no (a0 a1 : Option Addr) (lp cp lq cq : Nat) (i : Int) (w : World) (hp : lp ≤ maxLen) (hq : lq ≤ maxLen) (h : 1048576 < lp + lq) :
    Calls Try.prog 14 #[.slice a0 lp cp, .slice a1 lq cq, .int .i64 i] w fun e w' => e = .returned (.bool false) ∧ w' = w := by
  by_cases h1 : 1048576 < lp
  · have h1' : (1048576 : Int) < (lp : Int) := by omega
    go_enter Try.func14, Try.ntmps14
    go_wp2
    go_ret
    exact ⟨rfl, rfl⟩
  · have h1' : ¬ (1048576 : Int) < (lp : Int) := by omega
    by_cases h2 : 1048576 < lq
    · have h2' : (1048576 : Int) < (lq : Int) := by omega
      go_enter Try.func14, Try.ntmps14
      go_wp2
      go_ret
      exact ⟨rfl, rfl⟩
    · have h2' : ¬ (1048576 : Int) < (lq : Int) := by omega
      have h3 : (1048576 : Int) < (lp : Int) + (lq : Int) := by omega
      go_enter Try.func14, Try.ntmps14
      go_wp2
      go_ret
      exact ⟨rfl, rfl⟩

/-- The short ways out. -/
theorem short (a0 a1 : Option Addr) (lp cp lq cq : Nat) (i : Int) (w : World) (hp : lp ≤ maxLen) (hq : lq ≤ maxLen) (h : 1048576 < lp + lq ∨ 65536 < lp ∨ 65536 < lq) :
    Calls Try.prog 6 #[.slice a0 lp cp, .slice a1 lq cq, .int .i64 i] w fun e w' => e = .returned (.bool true) ∧ Below w.heap.size w w' := by
  by_cases h0 : 1048576 < lp + lq
  · go_enter Try.func6, Try.ntmps6
    go_wp2_with fail
    refine (bytes_no a0 a1 lp cp lq cq i _ hp hq h0).mono ?_
    rintro e w ⟨rfl, rfl⟩
    go_wp2_with fail
    go_ret
    exact ⟨rfl, Below.refl _ _⟩
  · by_cases h1 : 65536 < lp
    · have g1 : (65536 : Int) < (lp : Int) := by omega
      go_enter Try.func6, Try.ntmps6
      go_wp2_with fail
      refine (bytes_yes a0 a1 lp cp lq cq i _ (by omega)).mono ?_
      rintro e w ⟨rfl, rfl⟩
      go_wp2_with fail
      go_ret
      exact ⟨rfl, Below.refl _ _⟩
    · have g1 : ¬ (65536 : Int) < (lp : Int) := by omega
      have g2 : (65536 : Int) < (lq : Int) := by omega
      go_enter Try.func6, Try.ntmps6
      go_wp2_with fail
      refine (bytes_yes a0 a1 lp cp lq cq i _ (by omega)).mono ?_
      rintro e w ⟨rfl, rfl⟩
      go_wp2_with fail
      go_ret
      exact ⟨rfl, Below.refl _ _⟩

/-- A row of ints as cells. -/
def rowI (l : List Int) : List Value := l.map (Value.int .i64)
theorem rowI_len (l : List Int) (n : Nat) (h : l.length = n) : (rowI l).length = n * 1 := by simp [rowI, h]
theorem rowI_one (l : List Int) : ∀ u ∈ rowI l, u.oneCell' = true := ints_oneCell .i64 l
theorem rowI_some (l : List Int) (j : Nat) (u : Value) (h : (rowI l)[j]? = some u) : j < l.length ∧ u = .int .i64 (l.getD j 0) := by
  obtain ⟨h1, h2⟩ := List.getElem?_eq_some_iff.1 h
  simp [rowI] at h1 h2
  exact ⟨h1, by rw [← h2]; simp [h1]⟩
theorem rowI_src {w : World} {a : Option Addr} {n cap : Nat} {l : List Int} (h : Ints w a n cap l) (hl : l.length = n) : ∀ ad, a = some ad → ∀ j u, (rowI l)[j]? = some u → w.cell? (ad.add j) = some u := by
  intro ad e j u hu
  obtain ⟨hj, rfl⟩ := rowI_some l j u hu
  exact h.2 ad e j (by omega)
theorem ints_joined {w : World} {b n : Nat} {p q : List Int} (hn : (p ++ q).length = n) (h : w.ownsRow b 3 1 (.slice (some ⟨b, 0, none⟩) n n) n (rowI p ++ rowI q)) :
    Ints w (some ⟨b, 0, none⟩) n n (p ++ q) := by
  refine ⟨fun e => (by cases e), fun ad e k hk => ?_⟩
  cases e
  rw [Go.WideShapes.add_plain, Nat.zero_add, h.cellAt k (by omega)]
  have e1 : rowI p ++ rowI q = rowI (p ++ q) := by simp [rowI]
  rw [e1]
  have hk' : k < (p ++ q).length := by omega
  generalize p ++ q = l at hk'
  simp [rowI, hk']

set_option maxHeartbeats 1000000 in
theorem core (a0 a1 : Option Addr) (lp cp lq cq : Nat) (p q : List Int) (z : Int) (w : World) (hlp : p.length = lp) (hlq : q.length = lq) (hP : Ints w a0 lp cp p) (hQ : Ints w a1 lq cq q)
    (h1 : lp ≤ 65536) (h2 : lq ≤ 65536) (hz1 : -9223372036854775808 ≤ z) (hz2 : z ≤ 9223372036854775807) :
    Calls Try.prog 6 #[.slice a0 lp cp, .slice a1 lq cq, .int .i64 z] w fun e w' => e = .returned (.bool true) ∧ Below w.heap.size w w' := by
  obtain ⟨i0, hi0, hy0, hy1, hy2⟩ := info_parts info3
  have g1 : ¬ (65536 : Int) < (lp : Int) := by omega
  have g2 : ¬ (65536 : Int) < (lq : Int) := by omega
  go_enter Try.func6, Try.ntmps6
  go_wp2_with fail
  refine (bytes_yes a0 a1 lp cp lq cq z _ (by omega)).mono ?_
  rintro e w ⟨rfl, rfl⟩
  go_wp2_with (first
    | (at_make; refine wpList_make_own _ rfl _ _ 34 rfl w.heap.size 3 i0 (.int .i64 0) 1 Try.underlying34 hi0 hy0 hy1 _ _ _ (lp + lq) rfl rfl (by omega) (by rw [hy2]; omega) (by unfold maxLen; omega) (Nat.le_refl _) ?_; intro w1 hown1 hgrow1; have hb1 : Below w.heap.size w w1 := (Below.refl _ _).grown hgrow1 (Nat.le_refl _) (fun _ h => by cases h); have hP1 := hP.below hb1; clear hgrow1)
    | (at_builtin; refine wpList_append_fits_any _ rfl (.tmp 39) (.tmp 40) 34 rfl w.heap.size 3 i0 1 Try.underlying34 hi0 hy1 w.heap.size 0 (lp + lq) [] rfl hown1 a0 lp cp (rowI p) rfl (rowI_len p lp hlp) hP1.1 (rowI_src hP1 hlp) (rowI_one p) (by omega) ?_; intro w2 hown2 hgrow2; simp only [Nat.zero_add, List.nil_append] at hown2; have hb2 : Below w.heap.size w w2 := hb1.grown hgrow2 hb1.size (fun _ h => by cases h; exact Nat.le_refl _); have hQ2 := hQ.below hb2; clear hgrow2 hown1 hP1)
    | (at_builtin; refine wpList_append_fits_any _ rfl (.tmp 42) (.tmp 43) 34 rfl w.heap.size 3 i0 1 Try.underlying34 hi0 hy1 w.heap.size lp (lp + lq) (rowI p) rfl hown2 a1 lq cq (rowI q) rfl (rowI_len q lq hlq) hQ2.1 (rowI_src hQ2 hlq) (rowI_one q) (by omega) ?_; intro w3 hown3 hgrow3; have hb3 : Below w.heap.size w w3 := hb2.grown hgrow3 hb2.size (fun _ h => by cases h; exact Nat.le_refl _); clear hgrow3 hown2 hQ2))
  have hI3 : Ints w3 (some ⟨w.heap.size, 0, none⟩) (lp + lq) (lp + lq) (p ++ q) := ints_joined (by simp; omega) hown3
  have hs3 := owns_lt hown3
  have hP3 := hP.below hb3
  have hQ3 := hQ.below hb3
  clear hown3 hb1 hb2 hP hQ
  refine (zzargs_any a0 lp cp p _ (by omega) hP3).mono ?_
  rintro e w4 ⟨gp, sp, rfl, hb4, hsp1, hsp2, hAp⟩
  go_wp2_with fail
  refine (zzargs_any a1 lq cq q _ (by omega) (hQ3.below hb4)).mono ?_
  rintro e w5 ⟨gq, sq, rfl, hb5, hsq1, hsq2, hAq⟩
  go_wp2_with fail
  refine (zzargs_any (some ⟨w.heap.size, 0, none⟩) (lp + lq) (lp + lq) (p ++ q) _ (by omega) (hI3.below (Below.next hb4 hb5))).mono ?_
  rintro e w6 ⟨gw, sw, rfl, hb6, hsw1, hsw2, hAw⟩
  have hP6 := hP3.below (Below.next (Below.next hb4 hb5) hb6)
  have hb36 := Below.next (Below.next hb4 hb5) hb6
  have hAp6 := hAp.below (by omega) (Below.next hb5 hb6)
  have hAq6 := hAq.below (by omega) hb6
  have hb : Below w.heap.size w w6 := hb3.trans (hb36.mono hb3.size)
  have z3 := hb3.size
  have z4 := hb4.size
  have z5 := hb5.size
  have z6 := hb6.size
  clear hP3 hQ3 hI3 hAp hAq hb3 hb4 hb5 hb6 hb36
  go_wp2_with fail
  go_loop [14, 15, 16] (fun c s i => ∃ k C : Nat, ∃ S : Bool, k ≤ lp ∧ C ≤ k ∧ i = .int .i64 k ∧ c = .int .i64 C ∧ s = .bool S ∧ Hid (C = zeros (p.take k)) ∧ Hid (S = spread (p.take k))) (fun _ _ i => lp - (intOf i).toNat)
  case atStart => exact ⟨0, 0, false, Nat.zero_le _, Nat.zero_le _, rfl, rfl, rfl, rfl, rfl⟩
  case round =>
    obtain ⟨k, C, S, hk, hCk, rfl, rfl, rfl, HC, HS⟩ := hrel
    by_cases hlt : k < lp
    · have hlt' : (k : Int) < (lp : Int) := by omega
      obtain ⟨ad, rfl⟩ : ∃ ad, a0 = some ad := by
        cases a0 with
        | none => have := (hP6.1 rfl).1; omega
        | some ad => exact ⟨ad, rfl⟩
      have c1 := hP6.2 ad rfl k hlt
      have e1 := zeros_take_succ p k (by omega)
      have e2 := spread_take_succ p k (by omega)
      rw [← HC.out] at e1
      rw [← HS.out] at e2
      generalize p.getD k 0 = K at c1 e1 e2
      have E1 := hide e1
      have E2 := hide e2
      clear e1 e2 HC HS
      by_cases h2 : K = 2
      · have t1 : (K == 2) = true := by simp [h2]
        have N1 : Hid (C = zeros (p.take (k + 1))) := by rw [E1.out, if_neg (by omega)]; exact (Nat.add_zero _).symm
        have N2 : Hid (true = spread (p.take (k + 1))) := by rw [E2.out, t1]; simp [Hid]
        clear h2 E1 E2
        go_wp2_with fail
        go_round
        case rel => exact ⟨k + 1, C, true, by omega, by omega, by go_num, rfl, rfl, N1, N2⟩
        case measure => simp [intOf]; omega
      · have t1 : (K == 2) = false := by simp [h2]
        have N2 : Hid (S = spread (p.take (k + 1))) := by rw [E2.out, t1]; simp [Hid]
        by_cases h0 : K = 0
        · have t2 : (K == 0) = true := by simp [h0]
          have N1 : Hid (C + 1 = zeros (p.take (k + 1))) := by rw [E1.out, if_pos h0]; rfl
          clear h2 h0 E1 E2
          go_wp2_with fail
          go_round
          case rel => exact ⟨k + 1, C + 1, S, by omega, by omega, by go_num, by go_num, rfl, N1, N2⟩
          case measure => simp [intOf]; omega
        · have t2 : (K == 0) = false := by simp [h0]
          have N1 : Hid (C = zeros (p.take (k + 1))) := by rw [E1.out, if_neg h0]; exact (Nat.add_zero _).symm
          clear h2 h0 E1 E2
          go_wp2_with fail
          go_round
          case rel => exact ⟨k + 1, C, S, by omega, by omega, by go_num, rfl, rfl, N1, N2⟩
          case measure => simp [intOf]; omega
    · have hkl : k = lp := by omega
      subst hkl
      have eC : C = zeros p := by rw [HC.out, List.take_of_length_le (by omega)]
      have eS : S = spread p := by rw [HS.out, List.take_of_length_le (by omega)]
      have HC' := hide eC
      have HS' := hide eS
      clear HC HS eC eS hP6
      go_wp2_with fail
      refine (posat_any w5.heap.size (k + lq) (k + lq) (p ++ q) _ z _ (by omega) (by omega) (by simp; omega) hAw).mono ?_
      rintro e w7 ⟨rfl, hb7⟩
      have hAp7 := hAp6.below (by omega) hb7
      have hAq7 := hAq6.below (by omega) hb7
      have z7 := hb7.size
      go_wp2_with fail
      refine (posat_any w3.heap.size k k p _ z _ (by omega) (by omega) hlp hAp7).mono ?_
      rintro e w8 ⟨rfl, hb8⟩
      have hAp8 := hAp7.below (by omega) hb8
      have hAq8 := hAq7.below (by omega) hb8
      have z8 := hb8.size
      clear hAp6 hAq6 hAp7 hAq7 hAw
      have hb68 := Below.next hb7 hb8
      have hbw : Below w.heap.size w w8 := hb.trans (hb68.mono hb.size)
      have F1 := pa_append p q z 0
      have F2 := pa_shift q (z - (C : Int)) 0 p.length
      have F3 := pa_big p (C : Int) 0 (by rw [← HC'.out]; exact Int.le_refl _)
      have F4 := pa_range q (z - (C : Int)) 0
      have F5 := pa_range p z 0
      rw [← HC'.out, ← HS'.out, F2, hlp] at F1
      have G3 := hide F3
      clear F2 F3 HC' HS'
      generalize pa (p ++ q) z 0 = R at F1
      generalize pa p z 0 = RP at F1 F5
      by_cases hrp : 0 ≤ RP
      · have hR : R = RP := by rw [F1, if_pos hrp]
        subst hR
        clear F1 F4 F5
        go_wp2_with fail
        refine (posat_any w3.heap.size k k p _ (C : Int) _ (by omega) (by omega) hlp hAp8).mono ?_
        rintro e w9 ⟨rfl, hb9⟩
        rw [G3.out]
        have hbf : Below w.heap.size w w9 := hbw.trans (hb9.mono (by omega))
        go_wp2
        go_ret
        exact ⟨by simp, hbf⟩
      · rw [if_neg hrp] at F1
        by_cases hsp : S = true
        · subst hsp
          have hR : R = -1 := by rw [F1, if_pos (.inl rfl)]
          subst hR
          clear F1 F4 F5
          go_wp2_with fail
          refine (posat_any w3.heap.size k k p _ (C : Int) _ (by omega) (by omega) hlp hAp8).mono ?_
          rintro e w9 ⟨rfl, hb9⟩
          rw [G3.out]
          have hbf : Below w.heap.size w w9 := hbw.trans (hb9.mono (by omega))
          go_wp2
          go_ret
          exact ⟨by simp, hbf⟩
        · have hsp' : S = false := by simpa using hsp
          subst hsp'
          by_cases hz : z < 0
          · have hR : R = -1 := by rw [F1, if_pos (.inr hz)]
            subst hR
            clear F1 F4 F5
            go_wp2_with fail
            refine (posat_any w3.heap.size k k p _ (C : Int) _ (by omega) (by omega) hlp hAp8).mono ?_
            rintro e w9 ⟨rfl, hb9⟩
            rw [G3.out]
            have hbf : Below w.heap.size w w9 := hbw.trans (hb9.mono (by omega))
            go_wp2
            go_ret
            exact ⟨by simp, hbf⟩
          · rw [if_neg (by simp; omega)] at F1
            have G1 := hide F1
            clear F1 F5
            go_wp2_with fail
            refine (posat_any w4.heap.size lq lq q _ (z - (C : Int)) _ (by omega) (by omega) hlq hAq8).mono ?_
            rintro e w9 ⟨rfl, hb9⟩
            have hAp9 := hAp8.below (by omega) hb9
            have z9 := hb9.size
            have hbw9 : Below w.heap.size w w9 := hbw.trans (hb9.mono (by omega))
            have F1 := G1.out
            generalize pa q (z - (C : Int)) 0 = RQ at F1 F4
            clear G1
            by_cases hrq : RQ < 0
            · have hR : R = -1 := by rw [F1, if_pos hrq]
              subst hR
              clear F1 F4
              go_wp2_with fail
              refine (posat_any w3.heap.size k k p _ (C : Int) _ (by omega) (by omega) hlp hAp9).mono ?_
              rintro e w10 ⟨rfl, hb10⟩
              rw [G3.out]
              have hbf : Below w.heap.size w w10 := hbw9.trans (hb10.mono (by omega))
              go_wp2
              go_ret
              exact ⟨by simp, hbf⟩
            · have hR : R = (k : Int) + RQ := by rw [F1, if_neg hrq]; omega
              have hq1 : RQ ≤ 65536 := by rcases F4 with h | h <;> omega
              have t1 : (R == (k : Int) + RQ) = true := by simp [hR]
              clear F1 F4 hR
              go_wp2_with fail
              refine (posat_any w3.heap.size k k p _ (C : Int) _ (by omega) (by omega) hlp hAp9).mono ?_
              rintro e w10 ⟨rfl, hb10⟩
              rw [G3.out]
              have hbf : Below w.heap.size w w10 := hbw9.trans (hb10.mono (by omega))
              go_wp2
              go_ret
              exact ⟨by simp, hbf⟩
end Go.Proofs.Qxb6613997a.JoinArgs
