import Derived.Test.Qxb6613997aArgsParts
import Derived.Test.Qxb6613997aPaLaws
namespace Go.Proofs.Qxb6613997a
open Go.RowKit
set_option linter.unusedVariables false

set_option maxHeartbeats 400000 in
theorem posat_any (g n cap : Nat) (l : List Int) (P : Nat → Addr) (z : Int) (w : World) (hg : g < w.heap.size) (hn : n ≤ 1000000) (hl : l.length = n)
    (hA : ArgsAt w g n (fun j => l.getD j 0) (fun j => .iface 44 (.pointer (some (P j))))) :
    Calls Try.prog 13 #[.slice (some ⟨g, 0, none⟩) n cap, .int .i64 z] w fun e w' => e = .returned (.int .i64 (pa l z 0)) ∧ Below w.heap.size w w' := by
  go_enter Try.func13, Try.ntmps13
  go_wp2
  go_loopw [5, 10] (fun c i wr => ∃ k c' : Nat, k ≤ n ∧ c' ≤ k ∧ i = .int .i64 k ∧ c = .int .i64 c' ∧ Hid (pa l z 0 = pa (l.drop k) (z - c') k) ∧ Below w.heap.size w wr) (fun _ i _ => n - (intOf i).toNat)
  case atStart => exact ⟨0, 0, Nat.zero_le _, Nat.zero_le _, rfl, rfl, by simp [Hid], Below.refl _ _⟩
  case round =>
    obtain ⟨k, c, hk, hc, rfl, rfl, HP, hb⟩ := hrel
    have hsz := hb.size
    by_cases hlt : k < n
    · have hlt' : (k : Int) < (n : Int) := by omega
      obtain ⟨d0', d1', d2'⟩ := (hA.mono (hb.block g hg)) k hlt
      rw [Nat.mul_comm 3 k] at d0' d1' d2'
      have d0 : wr.cell? ⟨g, k * 3, none⟩ = some (.int .i64 (l.getD k 0)) := d0'
      have d1 : wr.cell? ⟨g, k * 3 + 1, none⟩ = some (.string ⟨#[]⟩) := d1'
      have d2 : wr.cell? ⟨g, k * 3 + 2, none⟩ = some (.iface 44 (.pointer (some (P k)))) := d2'
      clear d0' d1' d2' hA
      have hst := pa_drop l k (z - c) k (by omega)
      rw [← HP.out] at hst
      generalize l.getD k 0 = K at d0 hst
      have HS := hide hst
      clear hst HP
      have hbe : ∀ o, Below w.heap.size w (wr.alloc o) := fun o => hb.alloc hsz o
      by_cases h0 : K = 0
      · by_cases hz : (c : Int) = z
        · have t1 : (K == 0) = true := by simp [h0]
          have t2 : ((c : Int) == z) = true := by simp [hz]
          have hfin : pa l z 0 = (k : Int) := by rw [HS.out, if_pos h0, if_pos (by omega)]
          have HF := hide hfin
          clear hfin h0 hz HS
          go_wp2
          go_ret
          exact ⟨by rw [HF.out]; rfl, hbe _⟩
        · have t1 : (K == 0) = true := by simp [h0]
          have t2 : ((c : Int) == z) = false := by simp [hz]
          have hfin : pa l z 0 = pa (l.drop (k + 1)) (z - ((c + 1 : Nat) : Int)) (k + 1) := by
            rw [HS.out, if_pos h0, if_neg (by omega), show z - (c : Int) - 1 = z - ((c + 1 : Nat) : Int) by omega]
          have HF := hide hfin
          clear hfin h0 hz HS
          go_wp2
          go_roundw
          case rel => exact ⟨k + 1, c + 1, by omega, by omega, by go_num, by go_num, HF, hbe _⟩
          case measure => simp [intOf]; omega
      · by_cases h2 : K = 2
        · have t1 : (K == 0) = false := by simp [h0]
          have t2 : (K == 2) = true := by simp [h2]
          have hfin : pa l z 0 = -1 := by rw [HS.out, if_neg h0, if_pos h2]
          have HF := hide hfin
          clear hfin h0 h2 HS
          go_wp2
          go_ret
          exact ⟨by rw [HF.out]; rfl, hbe _⟩
        · have t1 : (K == 0) = false := by simp [h0]
          have t2 : (K == 2) = false := by simp [h2]
          have hfin : pa l z 0 = pa (l.drop (k + 1)) (z - (c : Int)) (k + 1) := by rw [HS.out, if_neg h0, if_neg h2]
          have HF := hide hfin
          clear hfin h0 h2 HS
          go_wp2
          go_roundw
          case rel => exact ⟨k + 1, c, by omega, by omega, by go_num, rfl, HF, hbe _⟩
          case measure => simp [intOf]; omega
    · have hfin : pa l z 0 = -1 := by rw [HP.out, List.drop_of_length_le (by omega)]; rfl
      have HF := hide hfin
      clear hfin HP hA
      go_wp2
      go_ret
      exact ⟨by rw [HF.out]; rfl, hb⟩
end Go.Proofs.Qxb6613997a
