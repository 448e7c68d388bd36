import Derived.Test.Qxb6613997aArgsParts
import Derived.WalkKit
import Derived.OwnWalk
import Derived.Below
import Derived.Deep.RegionWith
namespace Go.Proofs.Qxb6613997a
open Go.RowKit
set_option linter.unusedVariables false

theorem zzarg_any (k : Int) (p : Option Addr) (w : World) :
    Calls Try.prog 16 #[.int .i64 k, .pointer p] w fun e w' => e = .returned (.agg #[.int .i64 k, .string ⟨#[]⟩, .iface 44 (.pointer p)]) ∧ w' = w.alloc (.cells #[.int .i64 k, .string ⟨#[]⟩, .iface 44 (.pointer p)] 48) := by
  go_enter Try.func16, Try.ntmps16
  go_wp2
  exact bodyPost_ret (v := .agg #[.int .i64 k, .string ⟨#[]⟩, .iface 44 (.pointer p)]) (by simp [results, Try.results16, go_sem]) rfl ⟨rfl, rfl⟩

theorem Try.info48 : (Try.prog.info? 48).map (fun i => (i.zero, i.size, i.bytes)) = some (some (.agg #[.int .i64 0, .string ⟨#[]⟩, .nilIface]), 3, 40) := by kernel_rfl
theorem Try.info44 : (Try.prog.info? 44).map (fun i => (i.zero, i.size, i.bytes)) = some (some (.pointer none), 1, 8) := by kernel_rfl

set_option maxHeartbeats 400000 in
theorem zzargs_some (x : Addr) (n cap : Nat) (K : Nat → Int) (w : World) (hn : n ≤ 131072) (hcell : ∀ k, k < n → w.cell? (x.add k) = some (.int .i64 (K k))) :
    Calls Try.prog 12 #[.slice (some x) n cap] w fun e w' => ∃ g s : Nat, e = .returned (.tuple #[.slice (some ⟨w.heap.size, 0, none⟩) n n, .slice (some ⟨g, 0, none⟩) n n]) ∧
      Below w.heap.size w w' ∧ w.heap.size < s ∧ s + 2 * n ≤ w'.heap.size ∧ ArgsAt w' w.heap.size n K (fun j => .iface 44 (.pointer (some ⟨s + 2 * j, 0, none⟩))) := by
  obtain ⟨ia, hia, az0, az1, az2⟩ := info_parts Try.info48
  obtain ⟨il, hil, lz0, lz1, lz2⟩ := info_parts Try.info44
  go_enter Try.func12, Try.ntmps12
  go_wp2_with (first
    | (at_make; refine wpList_make_full _ rfl _ _ 36 rfl w.heap.size 48 ia _ 3 Try.underlying36 hia az0 az1 _ _ _ _ n rfl rfl rfl rfl (by rw [az2]; omega) (by unfold maxLen; omega) (Nat.le_refl _) ?_; intro w1 hown1 hgrow1; have hb1 : Below w.heap.size w w1 := (Below.refl _ _).grown hgrow1 (Nat.le_refl _) (fun _ h => by cases h); have hsz1 := owns_lt hown1)
    | (at_make; refine wpList_make_full _ rfl _ _ 37 rfl (w.heap.size + 1) 44 il _ 1 Try.underlying37 hil lz0 lz1 _ _ _ _ n rfl rfl rfl rfl (by rw [lz2]; omega) (by unfold maxLen; omega) (by exact hsz1) ?_; intro w2 hown2 hgrow2))
  have hb2 : Below w.heap.size w w2 := hb1.grown hgrow2 hb1.size (fun _ h => by cases h)
  have hA2 := (free_of_owns hown1).grown hsz1 (by simp) hgrow2
  have hL2 := free_of_owns hown2
  have hlt2 := owns_lt hown2
  rw [Nat.mul_one] at hL2
  clear hown1 hown2 hgrow1 hgrow2
  generalize w1.heap.size = g at *
  clear hb1 w1
  go_loopw [6] (fun i wr => ∃ k : Nat, k ≤ n ∧ i = .int .i64 k ∧ Free wr w.heap.size (n * 3) ∧ Free wr g n ∧ Below w.heap.size w wr ∧ wr.heap.size = w2.heap.size + 2 * k ∧ ArgsAt wr w.heap.size k K (fun j => .iface 44 (.pointer (some ⟨w2.heap.size + 2 * j, 0, none⟩)))) (fun i _ => n - (intOf i).toNat)
  case atStart => exact ⟨0, Nat.zero_le _, rfl, hA2, hL2, hb2, rfl, fun j hj => absurd hj (Nat.not_lt_zero j)⟩
  case round =>
    obtain ⟨k, hk, rfl, hA, hL, hb, hsz, hargs⟩ := hrel
    by_cases hlt : k < n
    · have hlt' : (k : Int) < (n : Int) := by omega
      have c1 : wr.cell? (x.add k) = some (.int .i64 (K k)) := by rw [← hcell k hlt]; exact hb.cell (p := x.add k) (World.block_lt_of_cell? w _ (hcell k hlt))
      obtain ⟨⟨v1, d1⟩, f1⟩ := hL k hlt
      have hgl : g < wr.heap.size := by omega
      have hwl : w.heap.size < wr.heap.size := by omega
      have HZ : Hid (wr.heap.size = w2.heap.size + 2 * k) := hsz
      clear hsz
      go_wp2_with fail
      have e1 : ((wr.setCell ⟨g, k, none⟩ (.pointer (some ⟨wr.heap.size, 0, none⟩))).alloc (.cells #[.int .i64 0, .int .i64 0, .int .i64 k] 46)).cell? (x.add k) = some (.int .i64 (K k)) := by
        have hb' : Below w.heap.size w ((wr.setCell ⟨g, k, none⟩ (.pointer (some ⟨wr.heap.size, 0, none⟩))).alloc (.cells #[.int .i64 0, .int .i64 0, .int .i64 k] 46)) := (hb.setCell (p := ⟨g, k, none⟩) (Nat.le_of_lt hsz1) _).alloc (by simp; omega) _
        rw [← hcell k hlt]; exact hb'.cell (p := x.add k) (World.block_lt_of_cell? w _ (hcell k hlt))
      have e2 : ((wr.setCell ⟨g, k, none⟩ (.pointer (some ⟨wr.heap.size, 0, none⟩))).alloc (.cells #[.int .i64 0, .int .i64 0, .int .i64 k] 46)).cell? ⟨g, k, none⟩ = some (.pointer (some ⟨wr.heap.size, 0, none⟩)) := by
        simp [go_sem, hgl, d1]
      have e3 : Free ((wr.setCell ⟨g, k, none⟩ (.pointer (some ⟨wr.heap.size, 0, none⟩))).alloc (.cells #[.int .i64 0, .int .i64 0, .int .i64 k] 46)) w.heap.size (n * 3) := (hA.setCell (show (⟨g, k, none⟩ : Addr).block ≠ w.heap.size from Nat.ne_of_gt hsz1) _).alloc (by simp; omega) _
      have e4 : w.heap.size < ((wr.setCell ⟨g, k, none⟩ (.pointer (some ⟨wr.heap.size, 0, none⟩))).alloc (.cells #[.int .i64 0, .int .i64 0, .int .i64 k] 46)).heap.size := by simp; omega
      generalize hW : (wr.setCell ⟨g, k, none⟩ (.pointer (some ⟨wr.heap.size, 0, none⟩))).alloc (.cells #[.int .i64 0, .int .i64 0, .int .i64 k] 46) = W3 at *
      have HW := hide hW
      clear hW c1 d1 f1
      obtain ⟨⟨v0, p0⟩, q0⟩ := e3 (k * 3) (by omega)
      obtain ⟨⟨v1, p1⟩, q1⟩ := e3 (k * 3 + 1) (by omega)
      obtain ⟨⟨v2, p2⟩, q2⟩ := e3 (k * 3 + 2) (by omega)
      go_region_with (go_at_call 16; refine (zzarg_any _ _ _).mono ?_; rintro e w' ⟨rfl, rfl⟩)
      all_goals
        go_wp2
        have R := args_round (o2 := .cells #[.int .i64 (K k), .string ⟨#[]⟩, .iface 44 (.pointer (some ⟨wr.heap.size, 0, none⟩))] 48) hsz1 hgl hA hL hb hargs hlt HW.out (v := .iface 44 (.pointer (some ⟨wr.heap.size, 0, none⟩))) (by rw [HZ.out]) rfl
        have hz := HZ.out
        go_roundw
        case rel => exact ⟨k + 1, by omega, by go_num, R.1, R.2.1, R.2.2.1, R.2.2.2.1.trans (by omega), R.2.2.2.2⟩
        case measure => simp [intOf]; omega
    · obtain rfl : k = n := by omega
      have HZ : Hid (wr.heap.size = w2.heap.size + 2 * k) := hsz
      clear hsz
      go_wp2
      go_ret2
      exact ⟨g, w2.heap.size, rfl, hb, by omega, by rw [HZ.out]; exact Nat.le_refl _, hargs⟩

set_option maxHeartbeats 400000 in
theorem zzargs_none (w : World) :
    Calls Try.prog 12 #[.slice none 0 0] w fun e w' => ∃ g s : Nat, e = .returned (.tuple #[.slice (some ⟨w.heap.size, 0, none⟩) 0 0, .slice (some ⟨g, 0, none⟩) 0 0]) ∧
      Below w.heap.size w w' ∧ w.heap.size < s ∧ s ≤ w'.heap.size := by
  obtain ⟨ia, hia, az0, az1, az2⟩ := info_parts Try.info48
  obtain ⟨il, hil, lz0, lz1, lz2⟩ := info_parts Try.info44
  go_enter Try.func12, Try.ntmps12
  go_wp2_with (first
    | (at_make; refine wpList_make_full _ rfl _ _ 36 rfl w.heap.size 48 ia _ 3 Try.underlying36 hia az0 az1 _ _ _ _ 0 rfl rfl rfl rfl (by rw [az2]; omega) (by unfold maxLen; omega) (Nat.le_refl _) ?_; intro w1 hown1 hgrow1; have hb1 : Below w.heap.size w w1 := (Below.refl _ _).grown hgrow1 (Nat.le_refl _) (fun _ h => by cases h); have hsz1 := owns_lt hown1)
    | (at_make; refine wpList_make_full _ rfl _ _ 37 rfl (w.heap.size + 1) 44 il _ 1 Try.underlying37 hil lz0 lz1 _ _ _ _ 0 rfl rfl rfl rfl (by rw [lz2]; omega) (by unfold maxLen; omega) (by exact hsz1) ?_; intro w2 hown2 hgrow2))
  have hb2 : Below w.heap.size w w2 := hb1.grown hgrow2 hb1.size (fun _ h => by cases h)
  have hlt2 := owns_lt hown2
  clear hown1 hown2 hgrow1 hgrow2
  refine wp_loop_rounds 1 ?_
  rw [rounds_succ]
  go_wp2
  go_ret2
  exact ⟨w1.heap.size, w2.heap.size, rfl, hb2, by omega, Nat.le_refl _⟩

/-- zzArgs: for whatever slice of ints that came in (or that the call itself made). -/
theorem zzargs_any (a : Option Addr) (n cap : Nat) (l : List Int) (w : World) (hn : n ≤ 131072) (hI : Ints w a n cap l) :
    Calls Try.prog 12 #[.slice a n cap] w fun e w' => ∃ g s : Nat, e = .returned (.tuple #[.slice (some ⟨w.heap.size, 0, none⟩) n n, .slice (some ⟨g, 0, none⟩) n n]) ∧
      Below w.heap.size w w' ∧ w.heap.size < s ∧ s + 2 * n ≤ w'.heap.size ∧ ArgsAt w' w.heap.size n (fun j => l.getD j 0) (fun j => .iface 44 (.pointer (some ⟨s + 2 * j, 0, none⟩))) := by
  cases a with
  | none =>
    obtain ⟨rfl, rfl⟩ := hI.1 rfl
    refine (zzargs_none w).mono fun e w' ⟨g, s, he, h1, h2, h3⟩ => ⟨g, s, he, h1, h2, by omega, fun j hj => absurd hj (Nat.not_lt_zero j)⟩
  | some x => exact zzargs_some x n cap (fun j => l.getD j 0) w hn (hI.2 x rfl)
end Go.Proofs.Qxb6613997a
