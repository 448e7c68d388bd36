/-
  PLAIN LAWS: PositionalAt as a function on lists. No Go here.
-/
import Derived.Test.Qxb6613997aRows
namespace Go.Proofs.Qxb6613997a

/-- PositionalAt, in plain words: 'z' positional arguments are still to be passed over, 'i' is the place of the list's head. -/
def pa : List Int → Int → Nat → Int
  | [], _, _ => -1
  | k :: l, z, i => if k = 0 then (if z = 0 then (i : Int) else pa l (z - 1) (i + 1)) else if k = 2 then -1 else pa l z (i + 1)

theorem pa_drop (l : List Int) (k : Nat) (z : Int) (i : Nat) (h : k < l.length) :
    pa (l.drop k) z i = if l.getD k 0 = 0 then (if z = 0 then (i : Int) else pa (l.drop (k + 1)) (z - 1) (i + 1)) else if l.getD k 0 = 2 then -1 else pa (l.drop (k + 1)) z (i + 1) := by
  rw [List.drop_eq_getElem_cons h]
  have e : l.getD k 0 = l[k] := by simp [h]
  rw [e]
  rfl

/-- The places of the positional arguments. -/
def pidx : List Int → Nat → List Nat
  | [], _ => []
  | k :: l, i => if k = 0 then i :: pidx l (i + 1) else pidx l (i + 1)

theorem pidx_snoc (l : List Int) (x : Int) (i : Nat) : pidx (l ++ [x]) i = pidx l i ++ (if x = 0 then [i + l.length] else []) := by
  induction l generalizing i with
  | nil => simp [pidx]
  | cons k l ih =>
    simp only [List.cons_append, pidx, ih, List.length_cons]
    have e : i + 1 + l.length = i + (l.length + 1) := by omega
    rw [e]
    split <;> simp

theorem pidx_len (l : List Int) (i : Nat) : (pidx l i).length ≤ l.length := by
  induction l generalizing i with
  | nil => simp [pidx]
  | cons k l ih =>
    simp only [pidx, List.length_cons]
    have := ih (i + 1)
    split <;> simp <;> omega

theorem pidx_take_succ (l : List Int) (k : Nat) (h : k < l.length) : pidx (l.take (k + 1)) 0 = pidx (l.take k) 0 ++ (if l.getD k 0 = 0 then [k] else []) := by
  rw [List.take_succ_eq_append_getElem h, pidx_snoc]
  have e : l.getD k 0 = l[k] := by simp [h]
  rw [e]
  simp [Nat.min_eq_left (Nat.le_of_lt h)]

theorem pidx_bound (l : List Int) (i : Nat) (j : Nat) (h : j ∈ pidx l i) : i ≤ j ∧ j < i + l.length := by
  induction l generalizing i with
  | nil => simp [pidx] at h
  | cons k l ih =>
    simp only [pidx] at h
    simp only [List.length_cons]
    split at h
    · rcases List.mem_cons.1 h with rfl | h
      · omega
      · have := ih _ h; omega
    · have := ih _ h; omega

theorem pa_eq (l : List Int) (E : Nat) (z : Int) (i : Nat) (h1 : ∀ j, j < E → l.getD j 0 ≠ 2) (h2 : E = l.length ∨ (E < l.length ∧ l.getD E 0 = 2)) :
    pa l z i = if 0 ≤ z ∧ z < (pidx (l.take E) i).length then ((pidx (l.take E) i).getD z.toNat 0 : Int) else -1 := by
  induction l generalizing E z i with
  | nil => simp [pa, pidx]
  | cons k l ih =>
    cases E with
    | zero =>
      have hk : k = 2 := by
        rcases h2 with h2 | ⟨_, h2⟩
        · simp at h2
        · simpa using h2
      subst hk
      simp [pa, pidx]
    | succ E =>
      have hk : k ≠ 2 := by simpa using h1 0 (by omega)
      have ih' := fun z i => ih E z i (fun j hj => by simpa using h1 (j + 1) (by omega)) (by simpa using h2)
      simp only [pa, List.take_succ_cons, pidx]
      by_cases h0 : k = 0
      · rw [if_pos h0, if_pos h0]
        by_cases hz : z = 0
        · subst hz; simp
        · rw [if_neg hz, ih']
          simp only [List.length_cons]
          by_cases hz0 : 0 ≤ z
          · have e : z.toNat = (z - 1).toNat + 1 := by omega
            by_cases hz1 : z - 1 < ((pidx (l.take E) (i + 1)).length : Int)
            · rw [if_pos ⟨by omega, hz1⟩, if_pos ⟨by omega, by omega⟩, e]; simp
            · rw [if_neg (by omega), if_neg (by omega)]
          · rw [if_neg (by omega), if_neg (by omega)]
      · rw [if_neg h0, if_neg hk, if_neg h0, ih']

/-! ### Joined lists -/
theorem pa_c0 (l : List Int) (i : Nat) : pa (0 :: l) 0 i = i := by simp [pa]
theorem pa_c1 (l : List Int) (z : Int) (i : Nat) (h : z ≠ 0) : pa (0 :: l) z i = pa l (z - 1) (i + 1) := by simp [pa, h]
theorem pa_c2 (l : List Int) (z : Int) (i : Nat) : pa (2 :: l) z i = -1 := by simp [pa]
theorem pa_c3 (k : Int) (l : List Int) (z : Int) (i : Nat) (h0 : k ≠ 0) (h2 : k ≠ 2) : pa (k :: l) z i = pa l z (i + 1) := by simp [pa, h0, h2]

theorem pa_neg (l : List Int) (z : Int) (i : Nat) (h : z < 0) : pa l z i = -1 := by
  induction l generalizing z i with
  | nil => rfl
  | cons k l ih =>
    by_cases h0 : k = 0
    · subst h0; rw [pa_c1 l z i (by omega)]; exact ih _ _ (by omega)
    · by_cases h2 : k = 2
      · subst h2; exact pa_c2 l z i
      · rw [pa_c3 k l z i h0 h2]; exact ih _ _ h

theorem pa_shift (l : List Int) (z : Int) (i d : Nat) : pa l z (i + d) = if pa l z i < 0 then -1 else pa l z i + d := by
  induction l generalizing z i with
  | nil => simp [pa]
  | cons k l ih =>
    by_cases h0 : k = 0
    · subst h0
      by_cases hz : z = 0
      · subst hz; rw [pa_c0, pa_c0, if_neg (by omega)]; omega
      · rw [pa_c1 l z _ hz, pa_c1 l z _ hz, ← ih, Nat.add_right_comm]
    · by_cases h2 : k = 2
      · subst h2; rw [pa_c2, pa_c2]; rfl
      · rw [pa_c3 k l z _ h0 h2, pa_c3 k l z _ h0 h2, ← ih, Nat.add_right_comm]

/-- How many positional arguments. -/
def zeros : List Int → Nat
  | [] => 0
  | k :: l => (if k = 0 then 1 else 0) + zeros l
theorem zeros_append (l m : List Int) : zeros (l ++ m) = zeros l + zeros m := by
  induction l with
  | nil => simp [zeros]
  | cons k l ih => simp only [List.cons_append, zeros, ih]; omega
theorem zeros_le (l : List Int) : zeros l ≤ l.length := by
  induction l with
  | nil => simp [zeros]
  | cons k l ih => simp only [zeros, List.length_cons]; split <;> omega
/-- Is there a Spread? -/
def spread (l : List Int) : Bool := l.any (fun k => k == 2)
theorem spread_append (l m : List Int) : spread (l ++ m) = (spread l || spread m) := by simp [spread]

theorem zeros_take_succ (l : List Int) (k : Nat) (h : k < l.length) : zeros (l.take (k + 1)) = zeros (l.take k) + (if l.getD k 0 = 0 then 1 else 0) := by
  rw [List.take_succ_eq_append_getElem h, zeros_append]
  have e : l.getD k 0 = l[k] := by simp [h]
  rw [e]; simp [zeros]
theorem spread_take_succ (l : List Int) (k : Nat) (h : k < l.length) : spread (l.take (k + 1)) = (spread (l.take k) || (l.getD k 0 == 2)) := by
  rw [List.take_succ_eq_append_getElem h, spread_append]
  have e : l.getD k 0 = l[k] := by simp [h]
  rw [e]; simp [spread]

theorem pa_big (l : List Int) (z : Int) (i : Nat) (h : (zeros l : Int) ≤ z) : pa l z i = -1 := by
  induction l generalizing z i with
  | nil => rfl
  | cons k l ih =>
    simp only [pa, zeros] at h ⊢
    by_cases h0 : k = 0
    · rw [if_pos h0] at h ⊢
      rw [if_neg (by omega), ih (z - 1) (i + 1) (by omega)]
    · rw [if_neg h0] at h ⊢
      rw [ih z (i + 1) (by omega)]; simp

/-- Where there is an answer, it is a place of the list. -/
theorem pa_range (l : List Int) (z : Int) (i : Nat) : pa l z i = -1 ∨ ((i : Int) ≤ pa l z i ∧ pa l z i < (i : Int) + l.length) := by
  induction l generalizing z i with
  | nil => left; rfl
  | cons k l ih =>
    simp only [pa, List.length_cons]
    split
    · split
      · right; omega
      · rcases ih (z - 1) (i + 1) with h | h
        · left; exact h
        · right; omega
    · split
      · left; rfl
      · rcases ih z (i + 1) with h | h
        · left; exact h
        · right; omega

theorem pa_append (p q : List Int) (z : Int) (i : Nat) :
    pa (p ++ q) z i = if 0 ≤ pa p z i then pa p z i else if spread p = true ∨ z < 0 then -1 else pa q (z - zeros p) (i + p.length) := by
  induction p generalizing z i with
  | nil =>
    have e : ¬ (0 : Int) ≤ pa [] z i := by simp [pa]
    rw [if_neg e]
    by_cases hz : z < 0
    · simp [hz, pa_neg q z i hz]
    · simp [hz, spread, zeros]
  | cons k p ih =>
    rw [List.cons_append]
    have e3 : i + 1 + p.length = i + (k :: p).length := by simp only [List.length_cons]; omega
    by_cases h0 : k = 0
    · subst h0
      by_cases hz : z = 0
      · subst hz; rw [pa_c0, pa_c0, if_pos (by omega)]
      · rw [pa_c1 _ z i hz, pa_c1 _ z i hz]
        by_cases hn : z < 0
        · rw [pa_neg _ _ _ (show z - 1 < 0 by omega), pa_neg _ _ _ (show z - 1 < 0 by omega), if_neg (by omega), if_pos (.inr hn)]
        · rw [ih]
          have e1 : spread (0 :: p) = spread p := by simp [spread]
          have e2 : z - 1 - (zeros p : Int) = z - (zeros (0 :: p) : Int) := by simp only [zeros, if_pos]; omega
          rw [e1, e2, e3]
          have e4 : (z - 1 < 0) ↔ (z < 0) := by omega
          simp only [e4]
    · by_cases h2 : k = 2
      · subst h2
        have e1 : spread (2 :: p) = true := by simp [spread]
        rw [pa_c2, pa_c2, if_neg (by omega), if_pos (.inl e1)]
      · rw [pa_c3 k _ z i h0 h2, pa_c3 k _ z i h0 h2, ih]
        have e1 : spread (k :: p) = spread p := by simp [spread, h2]
        have e2 : (zeros (k :: p) : Int) = zeros p := by simp [zeros, h0]
        rw [e1, e2, e3]
end Go.Proofs.Qxb6613997a
