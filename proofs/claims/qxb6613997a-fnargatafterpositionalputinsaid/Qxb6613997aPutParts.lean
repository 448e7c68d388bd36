import Derived.Test.Qxb6613997aArgs
import Derived.Test.Qxb6613997aArgAt
import Derived.LaidEqlPtr
import Derived.Laws.Pointers
namespace Go.Proofs.Qxb6613997a.Put
open Go.RowKit
set_option linter.unusedVariables false

theorem bytes_yes (a : Option Addr) (n cap : Nat) (y z : Int) (w : World) (h : n ≤ 1048576) :
    Calls Try.prog 15 #[.slice a n cap, .int .i64 y, .int .i64 z] w fun e w' => e = .returned (.bool true) ∧ w' = w := by
  have h1 : ¬ (1048576 : Int) < (n : Int) := by omega
  go_enter Try.func15, Try.ntmps15
  go_wp2
  go_ret
  exact ⟨rfl, rfl⟩
theorem bytes_no (a : Option Addr) (n cap : Nat) (y z : Int) (w : World) (hn : n ≤ maxLen) (h : 1048576 < n) :
    Calls Try.prog 15 #[.slice a n cap, .int .i64 y, .int .i64 z] w fun e w' => e = .returned (.bool false) ∧ w' = w := by
  have h1 : (1048576 : Int) < (n : Int) := by omega
  go_enter Try.func15, Try.ntmps15
  go_wp2
  go_ret
  exact ⟨rfl, rfl⟩

theorem short (a : Option Addr) (n cap : Nat) (y z : Int) (w : World) (hn : n ≤ maxLen) (h : 65536 < n ∨ y < 0 ∨ (n : Int) < y) :
    Calls Try.prog 7 #[.slice a n cap, .int .i64 y, .int .i64 z] w fun e w' => e = .returned (.bool true) ∧ Below w.heap.size w w' := by
  by_cases h0 : 1048576 < n
  · go_enter Try.func7, Try.ntmps7
    go_wp2_with fail
    refine (bytes_no a n cap y z _ hn h0).mono ?_
    rintro e w ⟨rfl, rfl⟩
    go_wp2_with fail
    go_ret
    exact ⟨rfl, Below.refl _ _⟩
  · by_cases h1 : 65536 < n
    · have g1 : (65536 : Int) < (n : Int) := by omega
      go_enter Try.func7, Try.ntmps7
      go_wp2_with fail
      refine (bytes_yes a n cap y z _ (by omega)).mono ?_
      rintro e w ⟨rfl, rfl⟩
      go_wp2_with fail
      go_ret
      exact ⟨rfl, Below.refl _ _⟩
    · have g1 : ¬ (65536 : Int) < (n : Int) := by omega
      by_cases h2 : y < 0
      · go_enter Try.func7, Try.ntmps7
        go_wp2_with fail
        refine (bytes_yes a n cap y z _ (by omega)).mono ?_
        rintro e w ⟨rfl, rfl⟩
        go_wp2_with fail
        go_ret
        exact ⟨rfl, Below.refl _ _⟩
      · have g2 : 0 ≤ y := by omega
        have g3 : (n : Int) < y := by omega
        go_enter Try.func7, Try.ntmps7
        go_wp2_with fail
        refine (bytes_yes a n cap y z _ (by omega)).mono ?_
        rintro e w ⟨rfl, rfl⟩
        go_wp2_with fail
        go_ret
        exact ⟨rfl, Below.refl _ _⟩

theorem info46 : (Try.prog.info? 46).map (fun i => (i.zero, i.size, i.bytes)) = some (some (.agg #[.int .i64 0, .int .i64 0, .int .i64 0]), 3, 24) := by kernel_rfl

/-! ### The cells of a row of arguments -/
def cellOf (K : Nat → Int) (P : Nat → Addr) (o : Nat) : Value := if o % 3 = 0 then .int .i64 (K (o / 3)) else if o % 3 = 1 then .string ⟨#[]⟩ else .iface 44 (.pointer (some (P (o / 3))))
def cellsFrom (K : Nat → Int) (P : Nat → Addr) (i m : Nat) : List Value := (List.range (m * 3)).map fun o => cellOf K P (i * 3 + o)
theorem cellsFrom_len (K : Nat → Int) (P : Nat → Addr) (i m : Nat) : (cellsFrom K P i m).length = m * 3 := by simp [cellsFrom]
theorem cellOf_one (K : Nat → Int) (P : Nat → Addr) (o : Nat) : (cellOf K P o).oneCell' = true := by
  unfold cellOf
  split
  · rfl
  · split <;> rfl
theorem cellsFrom_one (K : Nat → Int) (P : Nat → Addr) (i m : Nat) : ∀ u ∈ cellsFrom K P i m, u.oneCell' = true := by
  intro u hu
  obtain ⟨_, _, rfl⟩ := List.mem_map.1 hu
  exact cellOf_one _ _ _
theorem cellsFrom_at (K : Nat → Int) (P : Nat → Addr) (i m j : Nat) (h : j < m * 3) : (cellsFrom K P i m)[j]? = some (cellOf K P (i * 3 + j)) := by
  simp [cellsFrom, h]
theorem cellsFrom_some (K : Nat → Int) (P : Nat → Addr) (i m j : Nat) (u : Value) (h : (cellsFrom K P i m)[j]? = some u) : j < m * 3 ∧ u = cellOf K P (i * 3 + j) := by
  have h1 : j < (cellsFrom K P i m).length := (List.getElem?_eq_some_iff.1 h).1
  rw [cellsFrom_len] at h1
  rw [cellsFrom_at K P i m j h1] at h
  exact ⟨h1, (Option.some.inj h).symm⟩
theorem cellOf_0 (K : Nat → Int) (P : Nat → Addr) (j : Nat) : cellOf K P (3 * j) = .int .i64 (K j) := by
  unfold cellOf
  rw [if_pos (by omega), show 3 * j / 3 = j by omega]
theorem cellOf_1 (K : Nat → Int) (P : Nat → Addr) (j : Nat) : cellOf K P (3 * j + 1) = .string ⟨#[]⟩ := by
  unfold cellOf
  rw [if_neg (by omega), if_pos (by omega)]
theorem cellOf_2 (K : Nat → Int) (P : Nat → Addr) (j : Nat) : cellOf K P (3 * j + 2) = .iface 44 (.pointer (some (P j))) := by
  unfold cellOf
  rw [if_neg (by omega), if_neg (by omega), show (3 * j + 2) / 3 = j by omega]
theorem argsAt_cell {w : World} {g n : Nat} {K : Nat → Int} {P : Nat → Addr} (h : ArgsAt w g n K (fun j => .iface 44 (.pointer (some (P j))))) (o : Nat) (ho : o < n * 3) : w.cell? ⟨g, o, none⟩ = some (cellOf K P o) := by
  obtain ⟨h0, h1, h2⟩ := h (o / 3) (by omega)
  have hm : o = 3 * (o / 3) ∨ o = 3 * (o / 3) + 1 ∨ o = 3 * (o / 3) + 2 := by omega
  generalize o / 3 = j at *
  rcases hm with rfl | rfl | rfl
  · rw [cellOf_0]; exact h0
  · rw [cellOf_1]; exact h1
  · rw [cellOf_2]; exact h2

theorem src_of {w : World} {g n : Nat} {K : Nat → Int} {P : Nat → Addr} (hA : ArgsAt w g n K (fun j => .iface 44 (.pointer (some (P j))))) (i m : Nat) (him : i + m ≤ n) {ao : Option Addr} (hao : 0 < m → ao = some ⟨g, i * 3, none⟩) :
    ∀ ad, ao = some ad → ∀ j u, (cellsFrom K P i m)[j]? = some u → w.cell? (ad.add j) = some u := by
  intro ad e j u hu
  obtain ⟨hj, rfl⟩ := cellsFrom_some K P i m j u hu
  rw [hao (by omega)] at e
  cases e
  rw [Go.WideShapes.add_plain]
  exact argsAt_cell hA _ (by omega)
theorem three_new (w : World) (N : Nat) (u0 u1 u2 : Value) (t : TypeId) (hN : N = w.heap.size) : ∀ j u, [u0, u1, u2][j]? = some u → (w.alloc (.cells #[u0, u1, u2] t)).cell? ((⟨N, 0, none⟩ : Addr).add j) = some u := by
  intro j u hj
  subst hN
  rw [Go.WideShapes.add_plain, Nat.zero_add, World.cell?_alloc_new]
  simpa using hj

theorem putK_getD (l : List Int) (pos j : Nat) (hp : pos ≤ l.length) : (putK l pos).getD j 0 = if j < pos then l.getD j 0 else if j = pos then 0 else l.getD (j - 1) 0 := by
  unfold putK
  have hlen : (l.take pos).length = pos := by simp; omega
  by_cases h1 : j < pos
  · rw [if_pos h1, List.getD_eq_getElem?_getD, List.getElem?_append_left (by omega), List.getElem?_take, if_pos h1, List.getD_eq_getElem?_getD]
  · rw [if_neg h1, List.getD_eq_getElem?_getD, List.getElem?_append_right (by omega), hlen]
    by_cases h2 : j = pos
    · subst h2; rw [if_pos rfl]; simp
    · rw [if_neg h2]
      obtain ⟨d, rfl⟩ : ∃ d, j = pos + 1 + d := ⟨j - pos - 1, by omega⟩
      rw [show pos + 1 + d - pos = d + 1 by omega, List.getElem?_cons_succ, List.getElem?_drop, List.getD_eq_getElem?_getD, show pos + 1 + d - 1 = pos + d by omega]

theorem ins_args {w : World} {base b n pos : Nat} {l : List Int} {P : Nat → Addr} {F : Addr} {tail : List Value} (hl : l.length = n) (hp : pos ≤ n) (ht : tail = cellsFrom (fun j => l.getD j 0) P pos (n - pos))
    (h : w.ownsRow base 48 3 (.slice (some ⟨b, 0, none⟩) (n + 1) (n + 1)) (n + 1) ((cellsFrom (fun j => l.getD j 0) P 0 pos ++ [.int .i64 0, .string ⟨#[]⟩, .iface 44 (.pointer (some F))]) ++ tail)) :
    ArgsAt w b (n + 1) (fun j => (putK l pos).getD j 0) (fun j => .iface 44 (.pointer (some (putP P F pos j)))) := by
  subst ht
  intro j hj
  have key : ∀ r, r < 3 → w.cell? ⟨b, 3 * j + r, none⟩ = if j < pos then some (cellOf (fun j => l.getD j 0) P (3 * j + r)) else if j = pos then [Value.int .i64 0, .string ⟨#[]⟩, .iface 44 (.pointer (some F))][r]? else some (cellOf (fun j => l.getD j 0) P (3 * (j - 1) + r)) := by
    intro r hr
    rw [h.cellAt (3 * j + r) (by omega)]
    by_cases h1 : j < pos
    · rw [if_pos h1, List.append_assoc, List.getElem?_append_left (by rw [cellsFrom_len]; omega), cellsFrom_at _ _ _ _ _ (by omega)]
      congr 2; omega
    · rw [if_neg h1]
      by_cases h2 : j = pos
      · subst h2
        rw [if_pos rfl, List.getElem?_append_left (by simp [cellsFrom_len]; omega), List.getElem?_append_right (by rw [cellsFrom_len]; omega), cellsFrom_len]
        congr 1; omega
      · rw [if_neg h2, List.getElem?_append_right (by simp [cellsFrom_len]; omega)]
        have e : 3 * j + r - (cellsFrom (fun j => l.getD j 0) P 0 pos ++ [Value.int .i64 0, .string ⟨#[]⟩, .iface 44 (.pointer (some F))]).length = 3 * j + r - (pos * 3 + 3) := by simp [cellsFrom_len]
        rw [e, cellsFrom_at _ _ _ _ _ (by omega)]
        congr 2; omega
  have k0 := key 0 (by omega)
  have k1 := key 1 (by omega)
  have k2 := key 2 (by omega)
  rw [Nat.add_zero] at k0
  rw [k0, k1, k2]
  show _ ∧ _ ∧ _
  have hK : (fun j => (putK l pos).getD j 0) j = _ := putK_getD l pos j (by omega)
  rw [hK]
  unfold putP
  by_cases h1 : j < pos
  · rw [if_pos h1, if_pos h1, if_pos h1, if_pos h1]
    refine ⟨?_, ?_, ?_⟩
    · rw [cellOf_0]
    · rw [cellOf_1]
    · rw [cellOf_2]; simp [h1]
  · rw [if_neg h1, if_neg h1, if_neg h1, if_neg h1]
    by_cases h2 : j = pos
    · rw [if_pos h2, if_pos h2, if_pos h2, if_pos h2]
      refine ⟨rfl, rfl, ?_⟩
      subst h2; simp
    · rw [if_neg h2, if_neg h2, if_neg h2, if_neg h2]
      refine ⟨?_, ?_, ?_⟩
      · rw [Nat.add_zero, cellOf_0]
      · rw [cellOf_1]
      · rw [cellOf_2]; simp [h1, h2]

theorem ptr_same (X : Option Addr) (w : World) : (binOp .eql 44 (.pointer X) (.pointer X)).run Try.prog w = .ok (.bool true) w := by
  cases X with
  | none => exact run_eql_pointer_nil w 44 none (by kernel_rfl)
  | some a =>
    obtain ⟨i, hi, _⟩ := info_parts info46
    exact run_eql_ptr_same w a Try.underlying44 hi
end Go.Proofs.Qxb6613997a.Put
