import Derived.Test.Qxb6613997aPutParts
namespace Go.Proofs.Qxb6613997a.Put
open Go.RowKit
set_option linter.unusedVariables false

set_option maxHeartbeats 1000000 in
theorem core_lt (a : Option Addr) (n cap : Nat) (l : List Int) (pos : Nat) (z : Int) (w : World) (hl : l.length = n) (hI : Ints w a n cap l) (hn : n ≤ 65536) (hlt0 : pos < n) (hz1 : -9223372036854775808 ≤ z) (hz2 : z ≤ 9223372036854775807) :
    Calls Try.prog 7 #[.slice a n cap, .int .i64 (pos : Nat), .int .i64 z] w fun e w' => e = .returned (.bool true) ∧ Below w.heap.size w w' := by
  obtain ⟨i0, hi0, hy0, hy1, hy2⟩ := info_parts Try.info48
  have g1 : ¬ (65536 : Int) < (n : Int) := by omega
  have g2 : ¬ ((pos : Nat) : Int) < 0 := by omega
  have g3 : ¬ (n : Int) < ((pos : Nat) : Int) := by omega
  have hpos : pos ≤ n := by omega
  have keq := ptr_same
  have hne : ¬ n = pos := by omega
  go_enter Try.func7, Try.ntmps7
  go_wp2_with fail
  refine (bytes_yes a n cap pos z _ (by omega)).mono ?_
  rintro e w ⟨rfl, rfl⟩
  go_wp2_with fail
  refine (zzargs_any a n cap l _ (by omega) hI).mono ?_
  rintro e w1 ⟨g, s, rfl, hb1, hs1, hs2, hA⟩
  have hI1 := hI.below hb1
  clear hI
  have z1 := hb1.size
  go_wp2_with (first
    | (at_make; refine wpList_make_own _ rfl _ _ 36 rfl w.heap.size 48 i0 _ 3 Try.underlying36 hi0 hy0 hy1 _ _ _ (n + 1) rfl rfl (by omega) (by rw [hy2]; omega) (by unfold maxLen; omega) (by simp; omega) ?_; intro w2 hown2 hgrow2; simp only [World.size_alloc] at hown2; have hb2 : Below w1.heap.size w1 w2 := ((Below.refl _ _).alloc (Nat.le_refl _) _).grown hgrow2 (by simp) (fun _ h => by cases h); have hA2 := hA.below (by omega) hb2; have z2 := owns_lt hown2; clear hgrow2)
    | (at_builtin; refine wpList_append_fits_any _ rfl (.tmp 46) (.tmp 49) 36 rfl w.heap.size 48 i0 3 Try.underlying36 hi0 hy1 (w1.heap.size + 1) 0 (n + 1) [] rfl hown2 (some ⟨w.heap.size, 0, none⟩) pos n (cellsFrom (fun j => l.getD j 0) (fun j => ⟨s + 2 * j, 0, none⟩) 0 pos) rfl (cellsFrom_len _ _ _ _) (fun e => by cases e) (src_of hA2 0 pos (by omega) (fun _ => rfl)) (cellsFrom_one _ _ _ _) (by omega) ?_; intro w3 hown3 hgrow3; simp only [Nat.zero_add, List.nil_append] at hown3; have hb3 : Below w1.heap.size w1 w3 := hb2.grown hgrow3 hb2.size (fun _ h => by cases h; omega); have z3 := hb3.size; clear hgrow3 hown2 hA2)
    | (at_builtin; refine wpList_append_fits _ rfl (.tmp 51) (.tmp 54) 36 rfl w.heap.size 48 i0 3 Try.underlying36 hi0 hy1 (w1.heap.size + 1) pos (n + 1) (cellsFrom (fun j => l.getD j 0) (fun j => ⟨s + 2 * j, 0, none⟩) 0 pos) rfl ((hown3.alloc _).alloc _) ⟨w3.heap.size + 1, 0, none⟩ 1 1 [.int .i64 0, .string ⟨#[]⟩, .iface 44 (.pointer (some ⟨w1.heap.size, 0, none⟩))] rfl rfl (three_new _ _ _ _ _ _ (by simp)) (fun u hu => by simp at hu; rcases hu with rfl | rfl | rfl <;> rfl) (by omega) ?_; intro w4 hown4 hgrow4; have hb4 : Below w1.heap.size w1 w4 := ((hb3.alloc hb3.size _).alloc (by simp; omega) _).grown hgrow4 (by simp; omega) (fun _ h => by cases h; omega); clear hgrow4 hown3; have hA4 := hA.below (by omega) hb4)
    | (at_builtin; refine wpList_append_fits_any _ rfl (.tmp 56) (.tmp 59) 36 rfl w.heap.size 48 i0 3 Try.underlying36 hi0 hy1 (w1.heap.size + 1) (pos + 1) (n + 1) (cellsFrom (fun j => l.getD j 0) (fun j => ⟨s + 2 * j, 0, none⟩) 0 pos ++ [.int .i64 0, .string ⟨#[]⟩, .iface 44 (.pointer (some ⟨w1.heap.size, 0, none⟩))]) rfl hown4 (some ⟨w.heap.size, pos * 3, none⟩) (n - pos) (n - pos) (cellsFrom (fun j => l.getD j 0) (fun j => ⟨s + 2 * j, 0, none⟩) pos (n - pos)) rfl (cellsFrom_len _ _ _ _) (fun e => by cases e) (src_of hA4 pos (n - pos) (by omega) (fun _ => rfl)) (cellsFrom_one _ _ _ _) (by omega) ?_; intro w5 hown5 hgrow5; rw [show pos + 1 + (n - pos) = n + 1 from by omega] at hown5 ⊢; have hb5 : Below w1.heap.size w1 w5 := hb4.grown hgrow5 hb4.size (fun _ h => by cases h; omega); clear hgrow5 hown4 hA4)
    | (go_at_call 16; refine (zzarg_any _ _ _).mono ?_; rintro e w' ⟨rfl, rfl⟩))
  have hN_w5 := ins_args (F := ⟨w1.heap.size, 0, none⟩) (P := (fun j => ⟨s + 2 * j, 0, none⟩)) hl hpos (by first | rfl | simp [cellsFrom]) hown5
  have z_w5 := owns_lt hown5
  have hA_w5 := hA.below (by omega) hb5
  have hI5 := hI1.below hb5
  have hbw5 : Below w.heap.size w w5 := hb1.trans (hb5.mono z1)
  have hlN : (putK l pos).length = n + 1 := by simp [putK]; omega
  clear hown5 hA hI1 hb1 hb5 hb2 hb3 hb4
  go_loop [11, 12, 13] (fun c s i => ∃ k C : Nat, ∃ S : Bool, k ≤ pos ∧ C ≤ k ∧ i = .int .i64 k ∧ c = .int .i64 C ∧ s = .bool S ∧ Hid (C = zeros (l.take k)) ∧ Hid (S = spread (l.take k))) (fun _ _ i => pos - (intOf i).toNat)
  case atStart => exact ⟨0, 0, false, Nat.zero_le _, Nat.zero_le _, rfl, rfl, rfl, rfl, rfl⟩
  case round =>
    obtain ⟨k, C, S, hk, hCk, rfl, rfl, rfl, HC, HS⟩ := hrel
    by_cases hlt : k < pos
    · have hlt' : (k : Int) < (pos : Int) := by omega
      have hlt2 : (k : Int) < (n : Int) := by omega
      obtain ⟨ad, rfl⟩ : ∃ ad, a = some ad := by
        cases a with
        | none => have := (hI5.1 rfl).1; omega
        | some ad => exact ⟨ad, rfl⟩
      have c1 := hI5.2 ad rfl k (by omega)
      have e1 := zeros_take_succ l k (by omega)
      have e2 := spread_take_succ l k (by omega)
      rw [← HC.out] at e1
      rw [← HS.out] at e2
      generalize l.getD k 0 = K at c1 e1 e2
      have E1 := hide e1
      have E2 := hide e2
      clear e1 e2 HC HS hN_w5 hA_w5
      by_cases h2 : K = 2
      · have t1 : (K == 2) = true := by simp [h2]
        have N1 : Hid (C = zeros (l.take (k + 1))) := by rw [E1.out, if_neg (by omega)]; exact (Nat.add_zero _).symm
        have N2 : Hid (true = spread (l.take (k + 1))) := by rw [E2.out, t1]; simp [Hid]
        clear h2 E1 E2
        go_wp2_with fail
        go_round
        case rel => exact ⟨k + 1, C, true, by omega, by omega, by go_num, rfl, rfl, N1, N2⟩
        case measure => simp [intOf]; omega
      · have t1 : (K == 2) = false := by simp [h2]
        have N2 : Hid (S = spread (l.take (k + 1))) := by rw [E2.out, t1]; simp [Hid]
        by_cases h0 : K = 0
        · have t2 : (K == 0) = true := by simp [h0]
          have N1 : Hid (C + 1 = zeros (l.take (k + 1))) := by rw [E1.out, if_pos h0]; rfl
          clear h2 h0 E1 E2
          go_wp2_with fail
          go_round
          case rel => exact ⟨k + 1, C + 1, S, by omega, by omega, by go_num, by go_num, rfl, N1, N2⟩
          case measure => simp [intOf]; omega
        · have t2 : (K == 0) = false := by simp [h0]
          have N1 : Hid (C = zeros (l.take (k + 1))) := by rw [E1.out, if_neg h0]; exact (Nat.add_zero _).symm
          clear h2 h0 E1 E2
          go_wp2_with fail
          go_round
          case rel => exact ⟨k + 1, C, S, by omega, by omega, by go_num, rfl, rfl, N1, N2⟩
          case measure => simp [intOf]; omega
    · have hkp : k = pos := by omega
      have HC' : Hid (C = zeros (l.take pos)) := by rw [← hkp]; exact HC
      have HS' : Hid (S = spread (l.take pos)) := by rw [← hkp]; exact HS
      have hCn : C ≤ n := by omega
      clear HC HS hI5
      have hlt' : ¬ (k : Int) < (pos : Int) := by omega
      clear hkp hlt hCk hk
      by_cases hS : S = true
      · subst hS
        have hs : spread (l.take pos) = true := HS'.out.symm
        have HQ1 : Hid (ptrAt (putP (fun j => ⟨s + 2 * j, 0, none⟩) ⟨w1.heap.size, 0, none⟩ pos) (pa (putK l pos) z 0) = ptrAt (fun j => ⟨s + 2 * j, 0, none⟩) (pa l z 0)) := put_same l pos _ _ (by omega) z (.inl hs)
        have HQ2 : Hid (ptrAt (putP (fun j => ⟨s + 2 * j, 0, none⟩) ⟨w1.heap.size, 0, none⟩ pos) (pa (putK l pos) (C : Int) 0) = ptrAt (fun j => ⟨s + 2 * j, 0, none⟩) (pa l (C : Int) 0)) := put_same l pos _ _ (by omega) C (.inl hs)
        clear hs HS' HC'
        go_wp2_with fail
        refine (argat_any w.heap.size n n l (fun j => ⟨s + 2 * j, 0, none⟩) z _ (by omega) (by omega) hl hA_w5).mono ?_
        rintro e w6 ⟨rfl, hb_w6⟩
        have hA_w6 := hA_w5.below (by omega) hb_w6
        have hN_w6 := hN_w5.below (by omega) hb_w6
        have z_w6 := hb_w6.size
        clear hA_w5 hN_w5
        go_wp2_with fail
        refine (localof_any (fun j => ⟨s + 2 * j, 0, none⟩) (pa l z 0) _).mono ?_
        rintro e w6 ⟨rfl, rfl⟩
        generalize hX : ptrAt (fun j => ⟨s + 2 * j, 0, none⟩) (pa l z 0) = X at HQ1 ⊢
        clear hX
        go_wp2_with fail
        refine (argat_any (w1.heap.size + 1) (n + 1) (n + 1) (putK l pos) (putP (fun j => ⟨s + 2 * j, 0, none⟩) ⟨w1.heap.size, 0, none⟩ pos) z _ (by omega) (by omega) hlN hN_w6).mono ?_
        rintro e w7 ⟨rfl, hb_w7⟩
        have hA_w7 := hA_w6.below (by omega) hb_w7
        have hN_w7 := hN_w6.below (by omega) hb_w7
        have z_w7 := hb_w7.size
        clear hA_w6 hN_w6
        go_wp2_with fail
        refine (localof_any (putP (fun j => ⟨s + 2 * j, 0, none⟩) ⟨w1.heap.size, 0, none⟩ pos) (pa (putK l pos) z 0) _).mono ?_
        rintro e w7 ⟨rfl, rfl⟩
        rw [HQ1.out]
        go_wp2_with fail
        refine (argat_any (w1.heap.size + 1) (n + 1) (n + 1) (putK l pos) (putP (fun j => ⟨s + 2 * j, 0, none⟩) ⟨w1.heap.size, 0, none⟩ pos) (C : Int) _ (by omega) (by omega) hlN hN_w7).mono ?_
        rintro e w8 ⟨rfl, hb_w8⟩
        have hA_w8 := hA_w7.below (by omega) hb_w8
        have hN_w8 := hN_w7.below (by omega) hb_w8
        have z_w8 := hb_w8.size
        clear hA_w7 hN_w7
        go_wp2_with fail
        refine (localof_any (putP (fun j => ⟨s + 2 * j, 0, none⟩) ⟨w1.heap.size, 0, none⟩ pos) (pa (putK l pos) (C : Int) 0) _).mono ?_
        rintro e w8 ⟨rfl, rfl⟩
        rw [HQ2.out]
        generalize hY : ptrAt (fun j => ⟨s + 2 * j, 0, none⟩) (pa l (C : Int) 0) = Y
        have HY := hide hY
        clear hY HQ1 HQ2
        go_wp2_with fail
        refine (argat_any w.heap.size n n l (fun j => ⟨s + 2 * j, 0, none⟩) (C : Int) _ (by omega) (by omega) hl hA_w8).mono ?_
        rintro e w9 ⟨rfl, hb_w9⟩
        have hA_w9 := hA_w8.below (by omega) hb_w9
        have hN_w9 := hN_w8.below (by omega) hb_w9
        have z_w9 := hb_w9.size
        clear hA_w8 hN_w8
        go_wp2_with fail
        refine (localof_any (fun j => ⟨s + 2 * j, 0, none⟩) (pa l (C : Int) 0) _).mono ?_
        rintro e w9 ⟨rfl, rfl⟩
        rw [HY.out]
        clear HY
        have hbf : Below w.heap.size w w9 := ((((hbw5).trans (hb_w6.mono (by omega))).trans (hb_w7.mono (by omega))).trans (hb_w8.mono (by omega))).trans (hb_w9.mono (by omega))
        go_wp2
        go_ret
        exact ⟨by simp, hbf⟩
      · have hS' : S = false := by simpa using hS
        subst hS'
        clear hS
        have hs : spread (l.take pos) = false := HS'.out.symm
        have HQ2 : Hid (ptrAt (putP (fun j => ⟨s + 2 * j, 0, none⟩) ⟨w1.heap.size, 0, none⟩ pos) (pa (putK l pos) (C : Int) 0) = some ⟨w1.heap.size, 0, none⟩) := by
          have := put_new l pos (fun j => ⟨s + 2 * j, 0, none⟩) ⟨w1.heap.size, 0, none⟩ (by omega) hs
          rw [← HC'.out] at this
          exact this
        by_cases hzC : z < (C : Int)
        · have HQ1 : Hid (ptrAt (putP (fun j => ⟨s + 2 * j, 0, none⟩) ⟨w1.heap.size, 0, none⟩ pos) (pa (putK l pos) z 0) = ptrAt (fun j => ⟨s + 2 * j, 0, none⟩) (pa l z 0)) := put_same l pos _ _ (by omega) z (.inr (by rw [← HC'.out]; exact hzC))
          clear hs HS' HC'
          go_wp2_with fail
          refine (argat_any w.heap.size n n l (fun j => ⟨s + 2 * j, 0, none⟩) z _ (by omega) (by omega) hl hA_w5).mono ?_
          rintro e w6 ⟨rfl, hb_w6⟩
          have hA_w6 := hA_w5.below (by omega) hb_w6
          have hN_w6 := hN_w5.below (by omega) hb_w6
          have z_w6 := hb_w6.size
          clear hA_w5 hN_w5
          go_wp2_with fail
          refine (localof_any (fun j => ⟨s + 2 * j, 0, none⟩) (pa l z 0) _).mono ?_
          rintro e w6 ⟨rfl, rfl⟩
          generalize hX : ptrAt (fun j => ⟨s + 2 * j, 0, none⟩) (pa l z 0) = X at HQ1 ⊢
          clear hX
          go_wp2_with fail
          refine (argat_any (w1.heap.size + 1) (n + 1) (n + 1) (putK l pos) (putP (fun j => ⟨s + 2 * j, 0, none⟩) ⟨w1.heap.size, 0, none⟩ pos) z _ (by omega) (by omega) hlN hN_w6).mono ?_
          rintro e w7 ⟨rfl, hb_w7⟩
          have hA_w7 := hA_w6.below (by omega) hb_w7
          have hN_w7 := hN_w6.below (by omega) hb_w7
          have z_w7 := hb_w7.size
          clear hA_w6 hN_w6
          go_wp2_with fail
          refine (localof_any (putP (fun j => ⟨s + 2 * j, 0, none⟩) ⟨w1.heap.size, 0, none⟩ pos) (pa (putK l pos) z 0) _).mono ?_
          rintro e w7 ⟨rfl, rfl⟩
          rw [HQ1.out]
          go_wp2_with fail
          refine (argat_any (w1.heap.size + 1) (n + 1) (n + 1) (putK l pos) (putP (fun j => ⟨s + 2 * j, 0, none⟩) ⟨w1.heap.size, 0, none⟩ pos) (C : Int) _ (by omega) (by omega) hlN hN_w7).mono ?_
          rintro e w8 ⟨rfl, hb_w8⟩
          have hA_w8 := hA_w7.below (by omega) hb_w8
          have hN_w8 := hN_w7.below (by omega) hb_w8
          have z_w8 := hb_w8.size
          clear hA_w7 hN_w7
          go_wp2_with fail
          refine (localof_any (putP (fun j => ⟨s + 2 * j, 0, none⟩) ⟨w1.heap.size, 0, none⟩ pos) (pa (putK l pos) (C : Int) 0) _).mono ?_
          rintro e w8 ⟨rfl, rfl⟩
          rw [HQ2.out]
          clear HQ1 HQ2
          have hbf : Below w.heap.size w w8 := (((hbw5).trans (hb_w6.mono (by omega))).trans (hb_w7.mono (by omega))).trans (hb_w8.mono (by omega))
          go_wp2
          go_ret
          exact ⟨by simp, hbf⟩
        · by_cases hzC2 : z = (C : Int)
          · subst hzC2
            clear hs HS' HC'
            go_wp2_with fail
            refine (argat_any w.heap.size n n l (fun j => ⟨s + 2 * j, 0, none⟩) (C : Int) _ (by omega) (by omega) hl hA_w5).mono ?_
            rintro e w6 ⟨rfl, hb_w6⟩
            have hA_w6 := hA_w5.below (by omega) hb_w6
            have hN_w6 := hN_w5.below (by omega) hb_w6
            have z_w6 := hb_w6.size
            clear hA_w5 hN_w5
            go_wp2_with fail
            refine (localof_any (fun j => ⟨s + 2 * j, 0, none⟩) (pa l (C : Int) 0) _).mono ?_
            rintro e w6 ⟨rfl, rfl⟩
            generalize ptrAt (fun j => ⟨s + 2 * j, 0, none⟩) (pa l (C : Int) 0) = X
            go_wp2_with fail
            refine (argat_any (w1.heap.size + 1) (n + 1) (n + 1) (putK l pos) (putP (fun j => ⟨s + 2 * j, 0, none⟩) ⟨w1.heap.size, 0, none⟩ pos) (C : Int) _ (by omega) (by omega) hlN hN_w6).mono ?_
            rintro e w7 ⟨rfl, hb_w7⟩
            have hA_w7 := hA_w6.below (by omega) hb_w7
            have hN_w7 := hN_w6.below (by omega) hb_w7
            have z_w7 := hb_w7.size
            clear hA_w6 hN_w6
            go_wp2_with fail
            refine (localof_any (putP (fun j => ⟨s + 2 * j, 0, none⟩) ⟨w1.heap.size, 0, none⟩ pos) (pa (putK l pos) (C : Int) 0) _).mono ?_
            rintro e w7 ⟨rfl, rfl⟩
            rw [HQ2.out]
            go_wp2_with fail
            refine (argat_any (w1.heap.size + 1) (n + 1) (n + 1) (putK l pos) (putP (fun j => ⟨s + 2 * j, 0, none⟩) ⟨w1.heap.size, 0, none⟩ pos) (C : Int) _ (by omega) (by omega) hlN hN_w7).mono ?_
            rintro e w8 ⟨rfl, hb_w8⟩
            have hA_w8 := hA_w7.below (by omega) hb_w8
            have hN_w8 := hN_w7.below (by omega) hb_w8
            have z_w8 := hb_w8.size
            clear hA_w7 hN_w7
            go_wp2_with fail
            refine (localof_any (putP (fun j => ⟨s + 2 * j, 0, none⟩) ⟨w1.heap.size, 0, none⟩ pos) (pa (putK l pos) (C : Int) 0) _).mono ?_
            rintro e w8 ⟨rfl, rfl⟩
            rw [HQ2.out]
            clear HQ2
            have hbf : Below w.heap.size w w8 := (((hbw5).trans (hb_w6.mono (by omega))).trans (hb_w7.mono (by omega))).trans (hb_w8.mono (by omega))
            go_wp2
            go_ret
            exact ⟨by simp, hbf⟩
          · have HQ1 : Hid (ptrAt (putP (fun j => ⟨s + 2 * j, 0, none⟩) ⟨w1.heap.size, 0, none⟩ pos) (pa (putK l pos) z 0) = ptrAt (fun j => ⟨s + 2 * j, 0, none⟩) (pa l (z - 1) 0)) := put_later l pos _ _ (by omega) z hs (by rw [← HC'.out]; omega)
            have t1 : (z == (C : Int)) = false := by simpa using hzC2
            clear hs HS' HC'
            go_wp2_with fail
            refine (argat_any w.heap.size n n l (fun j => ⟨s + 2 * j, 0, none⟩) z _ (by omega) (by omega) hl hA_w5).mono ?_
            rintro e w6 ⟨rfl, hb_w6⟩
            have hA_w6 := hA_w5.below (by omega) hb_w6
            have hN_w6 := hN_w5.below (by omega) hb_w6
            have z_w6 := hb_w6.size
            clear hA_w5 hN_w5
            go_wp2_with fail
            refine (localof_any (fun j => ⟨s + 2 * j, 0, none⟩) (pa l z 0) _).mono ?_
            rintro e w6 ⟨rfl, rfl⟩
            generalize ptrAt (fun j => ⟨s + 2 * j, 0, none⟩) (pa l z 0) = X
            go_wp2_with fail
            refine (argat_any (w1.heap.size + 1) (n + 1) (n + 1) (putK l pos) (putP (fun j => ⟨s + 2 * j, 0, none⟩) ⟨w1.heap.size, 0, none⟩ pos) z _ (by omega) (by omega) hlN hN_w6).mono ?_
            rintro e w7 ⟨rfl, hb_w7⟩
            have hA_w7 := hA_w6.below (by omega) hb_w7
            have hN_w7 := hN_w6.below (by omega) hb_w7
            have z_w7 := hb_w7.size
            clear hA_w6 hN_w6
            go_wp2_with fail
            refine (localof_any (putP (fun j => ⟨s + 2 * j, 0, none⟩) ⟨w1.heap.size, 0, none⟩ pos) (pa (putK l pos) z 0) _).mono ?_
            rintro e w7 ⟨rfl, rfl⟩
            rw [HQ1.out]
            generalize hY : ptrAt (fun j => ⟨s + 2 * j, 0, none⟩) (pa l (z - 1) 0) = Y
            have HY := hide hY
            clear hY HQ1
            go_wp2_with fail
            refine (argat_any (w1.heap.size + 1) (n + 1) (n + 1) (putK l pos) (putP (fun j => ⟨s + 2 * j, 0, none⟩) ⟨w1.heap.size, 0, none⟩ pos) (C : Int) _ (by omega) (by omega) hlN hN_w7).mono ?_
            rintro e w8 ⟨rfl, hb_w8⟩
            have hA_w8 := hA_w7.below (by omega) hb_w8
            have hN_w8 := hN_w7.below (by omega) hb_w8
            have z_w8 := hb_w8.size
            clear hA_w7 hN_w7
            go_wp2_with fail
            refine (localof_any (putP (fun j => ⟨s + 2 * j, 0, none⟩) ⟨w1.heap.size, 0, none⟩ pos) (pa (putK l pos) (C : Int) 0) _).mono ?_
            rintro e w8 ⟨rfl, rfl⟩
            rw [HQ2.out]
            clear HQ2
            go_wp2_with fail
            refine (argat_any w.heap.size n n l (fun j => ⟨s + 2 * j, 0, none⟩) (z - 1) _ (by omega) (by omega) hl hA_w8).mono ?_
            rintro e w9 ⟨rfl, hb_w9⟩
            have hA_w9 := hA_w8.below (by omega) hb_w9
            have hN_w9 := hN_w8.below (by omega) hb_w9
            have z_w9 := hb_w9.size
            clear hA_w8 hN_w8
            go_wp2_with fail
            refine (localof_any (fun j => ⟨s + 2 * j, 0, none⟩) (pa l (z - 1) 0) _).mono ?_
            rintro e w9 ⟨rfl, rfl⟩
            rw [HY.out]
            clear HY
            have hbf : Below w.heap.size w w9 := ((((hbw5).trans (hb_w6.mono (by omega))).trans (hb_w7.mono (by omega))).trans (hb_w8.mono (by omega))).trans (hb_w9.mono (by omega))
            go_wp2
            go_ret
            exact ⟨by simp, hbf⟩


set_option maxHeartbeats 1000000 in
theorem core_eq (a : Option Addr) (n cap : Nat) (l : List Int) (z : Int) (w : World) (hl : l.length = n) (hI : Ints w a n cap l) (hn : n ≤ 65536) (hz1 : -9223372036854775808 ≤ z) (hz2 : z ≤ 9223372036854775807) :
    Calls Try.prog 7 #[.slice a n cap, .int .i64 (n : Nat), .int .i64 z] w fun e w' => e = .returned (.bool true) ∧ Below w.heap.size w w' := by
  obtain ⟨i0, hi0, hy0, hy1, hy2⟩ := info_parts Try.info48
  have g1 : ¬ (65536 : Int) < (n : Int) := by omega
  have g2 : ¬ ((n : Nat) : Int) < 0 := by omega
  have g3 : ¬ (n : Int) < ((n : Nat) : Int) := by omega
  have hpos : n ≤ n := by omega
  have keq := ptr_same
  go_enter Try.func7, Try.ntmps7
  go_wp2_with fail
  refine (bytes_yes a n cap n z _ (by omega)).mono ?_
  rintro e w ⟨rfl, rfl⟩
  go_wp2_with fail
  refine (zzargs_any a n cap l _ (by omega) hI).mono ?_
  rintro e w1 ⟨g, s, rfl, hb1, hs1, hs2, hA⟩
  have hI1 := hI.below hb1
  clear hI
  have z1 := hb1.size
  go_wp2_with (first
    | (at_make; refine wpList_make_own _ rfl _ _ 36 rfl w.heap.size 48 i0 _ 3 Try.underlying36 hi0 hy0 hy1 _ _ _ (n + 1) rfl rfl (by omega) (by rw [hy2]; omega) (by unfold maxLen; omega) (by simp; omega) ?_; intro w2 hown2 hgrow2; simp only [World.size_alloc] at hown2; have hb2 : Below w1.heap.size w1 w2 := ((Below.refl _ _).alloc (Nat.le_refl _) _).grown hgrow2 (by simp) (fun _ h => by cases h); have hA2 := hA.below (by omega) hb2; have z2 := owns_lt hown2; clear hgrow2)
    | (at_builtin; refine wpList_append_fits_any _ rfl (.tmp 46) (.tmp 49) 36 rfl w.heap.size 48 i0 3 Try.underlying36 hi0 hy1 (w1.heap.size + 1) 0 (n + 1) [] rfl hown2 (some ⟨w.heap.size, 0, none⟩) n n (cellsFrom (fun j => l.getD j 0) (fun j => ⟨s + 2 * j, 0, none⟩) 0 n) rfl (cellsFrom_len _ _ _ _) (fun e => by cases e) (src_of hA2 0 n (by omega) (fun _ => rfl)) (cellsFrom_one _ _ _ _) (by omega) ?_; intro w3 hown3 hgrow3; simp only [Nat.zero_add, List.nil_append] at hown3; have hb3 : Below w1.heap.size w1 w3 := hb2.grown hgrow3 hb2.size (fun _ h => by cases h; omega); have z3 := hb3.size; clear hgrow3 hown2 hA2)
    | (at_builtin; refine wpList_append_fits _ rfl (.tmp 51) (.tmp 54) 36 rfl w.heap.size 48 i0 3 Try.underlying36 hi0 hy1 (w1.heap.size + 1) n (n + 1) (cellsFrom (fun j => l.getD j 0) (fun j => ⟨s + 2 * j, 0, none⟩) 0 n) rfl ((hown3.alloc _).alloc _) ⟨w3.heap.size + 1, 0, none⟩ 1 1 [.int .i64 0, .string ⟨#[]⟩, .iface 44 (.pointer (some ⟨w1.heap.size, 0, none⟩))] rfl rfl (three_new _ _ _ _ _ _ (by simp)) (fun u hu => by simp at hu; rcases hu with rfl | rfl | rfl <;> rfl) (by omega) ?_; intro w4 hown4 hgrow4; have hb4 : Below w1.heap.size w1 w4 := ((hb3.alloc hb3.size _).alloc (by simp; omega) _).grown hgrow4 (by simp; omega) (fun _ h => by cases h; omega); clear hgrow4 hown3; have hA4 := hA.below (by omega) hb4)
    | (at_builtin; refine wpList_append_fits_any _ rfl (.tmp 56) (.tmp 59) 36 rfl w.heap.size 48 i0 3 Try.underlying36 hi0 hy1 (w1.heap.size + 1) (n + 1) (n + 1) (cellsFrom (fun j => l.getD j 0) (fun j => ⟨s + 2 * j, 0, none⟩) 0 n ++ [.int .i64 0, .string ⟨#[]⟩, .iface 44 (.pointer (some ⟨w1.heap.size, 0, none⟩))]) rfl hown4 (some ⟨w.heap.size, 0, none⟩) 0 0 [] rfl rfl (fun e => by cases e) (fun ad e j u hu => by simp at hu) (fun u hu => by simp at hu) (by omega) ?_; intro w5 hown5 hgrow5; rw [show n + 1 + 0 = n + 1 from by omega] at hown5 ⊢; have hb5 : Below w1.heap.size w1 w5 := hb4.grown hgrow5 hb4.size (fun _ h => by cases h; omega); clear hgrow5 hown4 hA4)
    | (go_at_call 16; refine (zzarg_any _ _ _).mono ?_; rintro e w' ⟨rfl, rfl⟩))
  have hN_w5 := ins_args (F := ⟨w1.heap.size, 0, none⟩) (P := (fun j => ⟨s + 2 * j, 0, none⟩)) hl hpos (by first | rfl | simp [cellsFrom]) hown5
  have z_w5 := owns_lt hown5
  have hA_w5 := hA.below (by omega) hb5
  have hI5 := hI1.below hb5
  have hbw5 : Below w.heap.size w w5 := hb1.trans (hb5.mono z1)
  have hlN : (putK l n).length = n + 1 := by simp [putK]; omega
  clear hown5 hA hI1 hb1 hb5 hb2 hb3 hb4
  go_loop [11, 12, 13] (fun c s i => ∃ k C : Nat, ∃ S : Bool, k ≤ n ∧ C ≤ k ∧ i = .int .i64 k ∧ c = .int .i64 C ∧ s = .bool S ∧ Hid (C = zeros (l.take k)) ∧ Hid (S = spread (l.take k))) (fun _ _ i => n - (intOf i).toNat)
  case atStart => exact ⟨0, 0, false, Nat.zero_le _, Nat.zero_le _, rfl, rfl, rfl, rfl, rfl⟩
  case round =>
    obtain ⟨k, C, S, hk, hCk, rfl, rfl, rfl, HC, HS⟩ := hrel
    by_cases hlt : k < n
    · have hlt' : (k : Int) < (n : Int) := by omega
      have hlt2 : (k : Int) < (n : Int) := by omega
      obtain ⟨ad, rfl⟩ : ∃ ad, a = some ad := by
        cases a with
        | none => have := (hI5.1 rfl).1; omega
        | some ad => exact ⟨ad, rfl⟩
      have c1 := hI5.2 ad rfl k (by omega)
      have e1 := zeros_take_succ l k (by omega)
      have e2 := spread_take_succ l k (by omega)
      rw [← HC.out] at e1
      rw [← HS.out] at e2
      generalize l.getD k 0 = K at c1 e1 e2
      have E1 := hide e1
      have E2 := hide e2
      clear e1 e2 HC HS hN_w5 hA_w5
      by_cases h2 : K = 2
      · have t1 : (K == 2) = true := by simp [h2]
        have N1 : Hid (C = zeros (l.take (k + 1))) := by rw [E1.out, if_neg (by omega)]; exact (Nat.add_zero _).symm
        have N2 : Hid (true = spread (l.take (k + 1))) := by rw [E2.out, t1]; simp [Hid]
        clear h2 E1 E2
        go_wp2_with fail
        go_round
        case rel => exact ⟨k + 1, C, true, by omega, by omega, by go_num, rfl, rfl, N1, N2⟩
        case measure => simp [intOf]; omega
      · have t1 : (K == 2) = false := by simp [h2]
        have N2 : Hid (S = spread (l.take (k + 1))) := by rw [E2.out, t1]; simp [Hid]
        by_cases h0 : K = 0
        · have t2 : (K == 0) = true := by simp [h0]
          have N1 : Hid (C + 1 = zeros (l.take (k + 1))) := by rw [E1.out, if_pos h0]; rfl
          clear h2 h0 E1 E2
          go_wp2_with fail
          go_round
          case rel => exact ⟨k + 1, C + 1, S, by omega, by omega, by go_num, by go_num, rfl, N1, N2⟩
          case measure => simp [intOf]; omega
        · have t2 : (K == 0) = false := by simp [h0]
          have N1 : Hid (C = zeros (l.take (k + 1))) := by rw [E1.out, if_neg h0]; exact (Nat.add_zero _).symm
          clear h2 h0 E1 E2
          go_wp2_with fail
          go_round
          case rel => exact ⟨k + 1, C, S, by omega, by omega, by go_num, rfl, rfl, N1, N2⟩
          case measure => simp [intOf]; omega
    · have hkp : k = n := by omega
      have HC' : Hid (C = zeros (l.take n)) := by rw [← hkp]; exact HC
      have HS' : Hid (S = spread (l.take n)) := by rw [← hkp]; exact HS
      have hCn : C ≤ n := by omega
      clear HC HS hI5
      have hlt' : ¬ (k : Int) < (n : Int) := by omega
      clear hkp hlt hCk hk
      by_cases hS : S = true
      · subst hS
        have hs : spread (l.take n) = true := HS'.out.symm
        have HQ1 : Hid (ptrAt (putP (fun j => ⟨s + 2 * j, 0, none⟩) ⟨w1.heap.size, 0, none⟩ n) (pa (putK l n) z 0) = ptrAt (fun j => ⟨s + 2 * j, 0, none⟩) (pa l z 0)) := put_same l n _ _ (by omega) z (.inl hs)
        have HQ2 : Hid (ptrAt (putP (fun j => ⟨s + 2 * j, 0, none⟩) ⟨w1.heap.size, 0, none⟩ n) (pa (putK l n) (C : Int) 0) = ptrAt (fun j => ⟨s + 2 * j, 0, none⟩) (pa l (C : Int) 0)) := put_same l n _ _ (by omega) C (.inl hs)
        clear hs HS' HC'
        go_wp2_with fail
        refine (argat_any w.heap.size n n l (fun j => ⟨s + 2 * j, 0, none⟩) z _ (by omega) (by omega) hl hA_w5).mono ?_
        rintro e w6 ⟨rfl, hb_w6⟩
        have hA_w6 := hA_w5.below (by omega) hb_w6
        have hN_w6 := hN_w5.below (by omega) hb_w6
        have z_w6 := hb_w6.size
        clear hA_w5 hN_w5
        go_wp2_with fail
        refine (localof_any (fun j => ⟨s + 2 * j, 0, none⟩) (pa l z 0) _).mono ?_
        rintro e w6 ⟨rfl, rfl⟩
        generalize hX : ptrAt (fun j => ⟨s + 2 * j, 0, none⟩) (pa l z 0) = X at HQ1 ⊢
        clear hX
        go_wp2_with fail
        refine (argat_any (w1.heap.size + 1) (n + 1) (n + 1) (putK l n) (putP (fun j => ⟨s + 2 * j, 0, none⟩) ⟨w1.heap.size, 0, none⟩ n) z _ (by omega) (by omega) hlN hN_w6).mono ?_
        rintro e w7 ⟨rfl, hb_w7⟩
        have hA_w7 := hA_w6.below (by omega) hb_w7
        have hN_w7 := hN_w6.below (by omega) hb_w7
        have z_w7 := hb_w7.size
        clear hA_w6 hN_w6
        go_wp2_with fail
        refine (localof_any (putP (fun j => ⟨s + 2 * j, 0, none⟩) ⟨w1.heap.size, 0, none⟩ n) (pa (putK l n) z 0) _).mono ?_
        rintro e w7 ⟨rfl, rfl⟩
        rw [HQ1.out]
        go_wp2_with fail
        refine (argat_any (w1.heap.size + 1) (n + 1) (n + 1) (putK l n) (putP (fun j => ⟨s + 2 * j, 0, none⟩) ⟨w1.heap.size, 0, none⟩ n) (C : Int) _ (by omega) (by omega) hlN hN_w7).mono ?_
        rintro e w8 ⟨rfl, hb_w8⟩
        have hA_w8 := hA_w7.below (by omega) hb_w8
        have hN_w8 := hN_w7.below (by omega) hb_w8
        have z_w8 := hb_w8.size
        clear hA_w7 hN_w7
        go_wp2_with fail
        refine (localof_any (putP (fun j => ⟨s + 2 * j, 0, none⟩) ⟨w1.heap.size, 0, none⟩ n) (pa (putK l n) (C : Int) 0) _).mono ?_
        rintro e w8 ⟨rfl, rfl⟩
        rw [HQ2.out]
        generalize hY : ptrAt (fun j => ⟨s + 2 * j, 0, none⟩) (pa l (C : Int) 0) = Y
        have HY := hide hY
        clear hY HQ1 HQ2
        go_wp2_with fail
        refine (argat_any w.heap.size n n l (fun j => ⟨s + 2 * j, 0, none⟩) (C : Int) _ (by omega) (by omega) hl hA_w8).mono ?_
        rintro e w9 ⟨rfl, hb_w9⟩
        have hA_w9 := hA_w8.below (by omega) hb_w9
        have hN_w9 := hN_w8.below (by omega) hb_w9
        have z_w9 := hb_w9.size
        clear hA_w8 hN_w8
        go_wp2_with fail
        refine (localof_any (fun j => ⟨s + 2 * j, 0, none⟩) (pa l (C : Int) 0) _).mono ?_
        rintro e w9 ⟨rfl, rfl⟩
        rw [HY.out]
        clear HY
        have hbf : Below w.heap.size w w9 := ((((hbw5).trans (hb_w6.mono (by omega))).trans (hb_w7.mono (by omega))).trans (hb_w8.mono (by omega))).trans (hb_w9.mono (by omega))
        go_wp2
        go_ret
        exact ⟨by simp, hbf⟩
      · have hS' : S = false := by simpa using hS
        subst hS'
        clear hS
        have hs : spread (l.take n) = false := HS'.out.symm
        have HQ2 : Hid (ptrAt (putP (fun j => ⟨s + 2 * j, 0, none⟩) ⟨w1.heap.size, 0, none⟩ n) (pa (putK l n) (C : Int) 0) = some ⟨w1.heap.size, 0, none⟩) := by
          have := put_new l n (fun j => ⟨s + 2 * j, 0, none⟩) ⟨w1.heap.size, 0, none⟩ (by omega) hs
          rw [← HC'.out] at this
          exact this
        by_cases hzC : z < (C : Int)
        · have HQ1 : Hid (ptrAt (putP (fun j => ⟨s + 2 * j, 0, none⟩) ⟨w1.heap.size, 0, none⟩ n) (pa (putK l n) z 0) = ptrAt (fun j => ⟨s + 2 * j, 0, none⟩) (pa l z 0)) := put_same l n _ _ (by omega) z (.inr (by rw [← HC'.out]; exact hzC))
          clear hs HS' HC'
          go_wp2_with fail
          refine (argat_any w.heap.size n n l (fun j => ⟨s + 2 * j, 0, none⟩) z _ (by omega) (by omega) hl hA_w5).mono ?_
          rintro e w6 ⟨rfl, hb_w6⟩
          have hA_w6 := hA_w5.below (by omega) hb_w6
          have hN_w6 := hN_w5.below (by omega) hb_w6
          have z_w6 := hb_w6.size
          clear hA_w5 hN_w5
          go_wp2_with fail
          refine (localof_any (fun j => ⟨s + 2 * j, 0, none⟩) (pa l z 0) _).mono ?_
          rintro e w6 ⟨rfl, rfl⟩
          generalize hX : ptrAt (fun j => ⟨s + 2 * j, 0, none⟩) (pa l z 0) = X at HQ1 ⊢
          clear hX
          go_wp2_with fail
          refine (argat_any (w1.heap.size + 1) (n + 1) (n + 1) (putK l n) (putP (fun j => ⟨s + 2 * j, 0, none⟩) ⟨w1.heap.size, 0, none⟩ n) z _ (by omega) (by omega) hlN hN_w6).mono ?_
          rintro e w7 ⟨rfl, hb_w7⟩
          have hA_w7 := hA_w6.below (by omega) hb_w7
          have hN_w7 := hN_w6.below (by omega) hb_w7
          have z_w7 := hb_w7.size
          clear hA_w6 hN_w6
          go_wp2_with fail
          refine (localof_any (putP (fun j => ⟨s + 2 * j, 0, none⟩) ⟨w1.heap.size, 0, none⟩ n) (pa (putK l n) z 0) _).mono ?_
          rintro e w7 ⟨rfl, rfl⟩
          rw [HQ1.out]
          go_wp2_with fail
          refine (argat_any (w1.heap.size + 1) (n + 1) (n + 1) (putK l n) (putP (fun j => ⟨s + 2 * j, 0, none⟩) ⟨w1.heap.size, 0, none⟩ n) (C : Int) _ (by omega) (by omega) hlN hN_w7).mono ?_
          rintro e w8 ⟨rfl, hb_w8⟩
          have hA_w8 := hA_w7.below (by omega) hb_w8
          have hN_w8 := hN_w7.below (by omega) hb_w8
          have z_w8 := hb_w8.size
          clear hA_w7 hN_w7
          go_wp2_with fail
          refine (localof_any (putP (fun j => ⟨s + 2 * j, 0, none⟩) ⟨w1.heap.size, 0, none⟩ n) (pa (putK l n) (C : Int) 0) _).mono ?_
          rintro e w8 ⟨rfl, rfl⟩
          rw [HQ2.out]
          clear HQ1 HQ2
          have hbf : Below w.heap.size w w8 := (((hbw5).trans (hb_w6.mono (by omega))).trans (hb_w7.mono (by omega))).trans (hb_w8.mono (by omega))
          go_wp2
          go_ret
          exact ⟨by simp, hbf⟩
        · by_cases hzC2 : z = (C : Int)
          · subst hzC2
            clear hs HS' HC'
            go_wp2_with fail
            refine (argat_any w.heap.size n n l (fun j => ⟨s + 2 * j, 0, none⟩) (C : Int) _ (by omega) (by omega) hl hA_w5).mono ?_
            rintro e w6 ⟨rfl, hb_w6⟩
            have hA_w6 := hA_w5.below (by omega) hb_w6
            have hN_w6 := hN_w5.below (by omega) hb_w6
            have z_w6 := hb_w6.size
            clear hA_w5 hN_w5
            go_wp2_with fail
            refine (localof_any (fun j => ⟨s + 2 * j, 0, none⟩) (pa l (C : Int) 0) _).mono ?_
            rintro e w6 ⟨rfl, rfl⟩
            generalize ptrAt (fun j => ⟨s + 2 * j, 0, none⟩) (pa l (C : Int) 0) = X
            go_wp2_with fail
            refine (argat_any (w1.heap.size + 1) (n + 1) (n + 1) (putK l n) (putP (fun j => ⟨s + 2 * j, 0, none⟩) ⟨w1.heap.size, 0, none⟩ n) (C : Int) _ (by omega) (by omega) hlN hN_w6).mono ?_
            rintro e w7 ⟨rfl, hb_w7⟩
            have hA_w7 := hA_w6.below (by omega) hb_w7
            have hN_w7 := hN_w6.below (by omega) hb_w7
            have z_w7 := hb_w7.size
            clear hA_w6 hN_w6
            go_wp2_with fail
            refine (localof_any (putP (fun j => ⟨s + 2 * j, 0, none⟩) ⟨w1.heap.size, 0, none⟩ n) (pa (putK l n) (C : Int) 0) _).mono ?_
            rintro e w7 ⟨rfl, rfl⟩
            rw [HQ2.out]
            go_wp2_with fail
            refine (argat_any (w1.heap.size + 1) (n + 1) (n + 1) (putK l n) (putP (fun j => ⟨s + 2 * j, 0, none⟩) ⟨w1.heap.size, 0, none⟩ n) (C : Int) _ (by omega) (by omega) hlN hN_w7).mono ?_
            rintro e w8 ⟨rfl, hb_w8⟩
            have hA_w8 := hA_w7.below (by omega) hb_w8
            have hN_w8 := hN_w7.below (by omega) hb_w8
            have z_w8 := hb_w8.size
            clear hA_w7 hN_w7
            go_wp2_with fail
            refine (localof_any (putP (fun j => ⟨s + 2 * j, 0, none⟩) ⟨w1.heap.size, 0, none⟩ n) (pa (putK l n) (C : Int) 0) _).mono ?_
            rintro e w8 ⟨rfl, rfl⟩
            rw [HQ2.out]
            clear HQ2
            have hbf : Below w.heap.size w w8 := (((hbw5).trans (hb_w6.mono (by omega))).trans (hb_w7.mono (by omega))).trans (hb_w8.mono (by omega))
            go_wp2
            go_ret
            exact ⟨by simp, hbf⟩
          · have HQ1 : Hid (ptrAt (putP (fun j => ⟨s + 2 * j, 0, none⟩) ⟨w1.heap.size, 0, none⟩ n) (pa (putK l n) z 0) = ptrAt (fun j => ⟨s + 2 * j, 0, none⟩) (pa l (z - 1) 0)) := put_later l n _ _ (by omega) z hs (by rw [← HC'.out]; omega)
            have t1 : (z == (C : Int)) = false := by simpa using hzC2
            clear hs HS' HC'
            go_wp2_with fail
            refine (argat_any w.heap.size n n l (fun j => ⟨s + 2 * j, 0, none⟩) z _ (by omega) (by omega) hl hA_w5).mono ?_
            rintro e w6 ⟨rfl, hb_w6⟩
            have hA_w6 := hA_w5.below (by omega) hb_w6
            have hN_w6 := hN_w5.below (by omega) hb_w6
            have z_w6 := hb_w6.size
            clear hA_w5 hN_w5
            go_wp2_with fail
            refine (localof_any (fun j => ⟨s + 2 * j, 0, none⟩) (pa l z 0) _).mono ?_
            rintro e w6 ⟨rfl, rfl⟩
            generalize ptrAt (fun j => ⟨s + 2 * j, 0, none⟩) (pa l z 0) = X
            go_wp2_with fail
            refine (argat_any (w1.heap.size + 1) (n + 1) (n + 1) (putK l n) (putP (fun j => ⟨s + 2 * j, 0, none⟩) ⟨w1.heap.size, 0, none⟩ n) z _ (by omega) (by omega) hlN hN_w6).mono ?_
            rintro e w7 ⟨rfl, hb_w7⟩
            have hA_w7 := hA_w6.below (by omega) hb_w7
            have hN_w7 := hN_w6.below (by omega) hb_w7
            have z_w7 := hb_w7.size
            clear hA_w6 hN_w6
            go_wp2_with fail
            refine (localof_any (putP (fun j => ⟨s + 2 * j, 0, none⟩) ⟨w1.heap.size, 0, none⟩ n) (pa (putK l n) z 0) _).mono ?_
            rintro e w7 ⟨rfl, rfl⟩
            rw [HQ1.out]
            generalize hY : ptrAt (fun j => ⟨s + 2 * j, 0, none⟩) (pa l (z - 1) 0) = Y
            have HY := hide hY
            clear hY HQ1
            go_wp2_with fail
            refine (argat_any (w1.heap.size + 1) (n + 1) (n + 1) (putK l n) (putP (fun j => ⟨s + 2 * j, 0, none⟩) ⟨w1.heap.size, 0, none⟩ n) (C : Int) _ (by omega) (by omega) hlN hN_w7).mono ?_
            rintro e w8 ⟨rfl, hb_w8⟩
            have hA_w8 := hA_w7.below (by omega) hb_w8
            have hN_w8 := hN_w7.below (by omega) hb_w8
            have z_w8 := hb_w8.size
            clear hA_w7 hN_w7
            go_wp2_with fail
            refine (localof_any (putP (fun j => ⟨s + 2 * j, 0, none⟩) ⟨w1.heap.size, 0, none⟩ n) (pa (putK l n) (C : Int) 0) _).mono ?_
            rintro e w8 ⟨rfl, rfl⟩
            rw [HQ2.out]
            clear HQ2
            go_wp2_with fail
            refine (argat_any w.heap.size n n l (fun j => ⟨s + 2 * j, 0, none⟩) (z - 1) _ (by omega) (by omega) hl hA_w8).mono ?_
            rintro e w9 ⟨rfl, hb_w9⟩
            have hA_w9 := hA_w8.below (by omega) hb_w9
            have hN_w9 := hN_w8.below (by omega) hb_w9
            have z_w9 := hb_w9.size
            clear hA_w8 hN_w8
            go_wp2_with fail
            refine (localof_any (fun j => ⟨s + 2 * j, 0, none⟩) (pa l (z - 1) 0) _).mono ?_
            rintro e w9 ⟨rfl, rfl⟩
            rw [HY.out]
            clear HY
            have hbf : Below w.heap.size w w9 := ((((hbw5).trans (hb_w6.mono (by omega))).trans (hb_w7.mono (by omega))).trans (hb_w8.mono (by omega))).trans (hb_w9.mono (by omega))
            go_wp2
            go_ret
            exact ⟨by simp, hbf⟩

end Go.Proofs.Qxb6613997a.Put
