/-
  PLAIN LAWS: a positional argument put in. No walk here.
-/
import Derived.Test.Qxb6613997aPaLaws
namespace Go.Proofs.Qxb6613997a

theorem pa_hit (t : List Int) (z : Int) (i : Nat) (hs : spread t = false) (h0 : 0 ≤ z) (h : z < zeros t) : 0 ≤ pa t z i := by
  induction t generalizing z i with
  | nil => simp [zeros] at h; omega
  | cons k t ih =>
    have hs' : (k == 2) = false ∧ spread t = false := by simpa [spread] using hs
    have h2 : k ≠ 2 := by simpa using hs'.1
    by_cases hk : k = 0
    · subst hk
      by_cases hz : z = 0
      · subst hz; rw [pa_c0]; omega
      · rw [pa_c1 t z i hz]
        exact ih _ _ hs'.2 (by omega) (by simp only [zeros] at h; simp at h; omega)
    · rw [pa_c3 k t z i hk h2]
      exact ih _ _ hs'.2 h0 (by simpa [zeros, hk] using h)

/-- What ArgAt and ZZlocalOf hand out: the pointer at place i, nil below zero. -/
def ptrAt (P : Nat → Addr) (i : Int) : Option Addr := if i < 0 then none else some (P i.toNat)
theorem ptrAt_neg (P : Nat → Addr) (i : Int) (h : i < 0) : ptrAt P i = none := by unfold ptrAt; rw [if_pos h]
theorem ptrAt_pos (P : Nat → Addr) (i : Int) (h : 0 ≤ i) : ptrAt P i = some (P i.toNat) := by unfold ptrAt; rw [if_neg (by omega)]

/-- The pointers behind the putting in. -/
def putP (P : Nat → Addr) (F : Addr) (pos : Nat) (j : Nat) : Addr := if j < pos then P j else if j = pos then F else P (j - 1)

/-- The kinds behind the putting in. -/
def putK (l : List Int) (pos : Nat) : List Int := l.take pos ++ 0 :: l.drop pos

theorem pa_put (l : List Int) (pos : Nat) (z : Int) : pa (putK l pos) z 0 = if 0 ≤ pa (l.take pos) z 0 then pa (l.take pos) z 0 else if spread (l.take pos) = true ∨ z < 0 then -1 else pa (0 :: l.drop pos) (z - zeros (l.take pos)) (0 + (l.take pos).length) :=
  pa_append _ _ _ _
theorem pa_old (l : List Int) (pos : Nat) (z : Int) : pa l z 0 = if 0 ≤ pa (l.take pos) z 0 then pa (l.take pos) z 0 else if spread (l.take pos) = true ∨ z < 0 then -1 else pa (l.drop pos) (z - zeros (l.take pos)) (0 + (l.take pos).length) := by
  have e := pa_append (l.take pos) (l.drop pos) z 0
  rwa [List.take_append_drop] at e

/-- Where the answer lies before the place, or there is none: the same pointer. -/
theorem put_same (l : List Int) (pos : Nat) (P : Nat → Addr) (F : Addr) (h : pos ≤ l.length) (z : Int) (hz : spread (l.take pos) = true ∨ z < zeros (l.take pos)) : ptrAt (putP P F pos) (pa (putK l pos) z 0) = ptrAt P (pa l z 0) := by
  rw [pa_put, pa_old l pos]
  have hr := pa_range (l.take pos) z 0
  have hlen : (l.take pos).length = pos := by simp; omega
  by_cases h1 : 0 ≤ pa (l.take pos) z 0
  · rw [if_pos h1, if_pos h1, ptrAt_pos _ _ h1, ptrAt_pos _ _ h1]
    unfold putP
    rw [if_pos (by omega)]
  · rw [if_neg h1, if_neg h1]
    by_cases h2 : spread (l.take pos) = true ∨ z < 0
    · rw [if_pos h2, if_pos h2]; rfl
    · exfalso
      apply h1
      refine pa_hit _ _ _ ?_ ?_ ?_
      · cases hs : spread (l.take pos) with
        | true => exact absurd (.inl hs) h2
        | false => rfl
      · exact Int.not_lt.1 fun e => h2 (.inr e)
      · rcases hz with hz | hz
        · exact absurd (.inl hz) h2
        · exact hz

/-- The new one. -/
theorem put_new (l : List Int) (pos : Nat) (P : Nat → Addr) (F : Addr) (h : pos ≤ l.length) (hs : spread (l.take pos) = false) : ptrAt (putP P F pos) (pa (putK l pos) (zeros (l.take pos)) 0) = some F := by
  rw [pa_put, pa_big (l.take pos) _ 0 (Int.le_refl _), if_neg (by omega), if_neg (by rw [hs]; simp), Int.sub_self, pa_c0]
  have hlen : (l.take pos).length = pos := by simp; omega
  rw [ptrAt_pos _ _ (by omega)]
  unfold putP
  rw [if_neg (by omega), if_pos (by omega)]

/-- The later ones. -/
theorem put_later (l : List Int) (pos : Nat) (P : Nat → Addr) (F : Addr) (h : pos ≤ l.length) (z : Int) (hs : spread (l.take pos) = false) (hz : (zeros (l.take pos) : Int) < z) : ptrAt (putP P F pos) (pa (putK l pos) z 0) = ptrAt P (pa l (z - 1) 0) := by
  have hlen : (l.take pos).length = pos := by simp; omega
  rw [pa_put, pa_old l pos (z - 1), pa_big (l.take pos) _ 0 (by omega), if_neg (by omega), if_neg (by rw [hs]; simp; omega),
    pa_big (l.take pos) _ 0 (by omega), if_neg (by omega), if_neg (by rw [hs]; simp; omega), pa_c1 _ _ _ (by omega), hlen,
    show z - (zeros (l.take pos) : Int) - 1 = z - 1 - zeros (l.take pos) by omega, pa_shift (l.drop pos) _ (0 + pos) 1]
  have hr := pa_range (l.drop pos) (z - 1 - zeros (l.take pos)) (0 + pos)
  generalize pa (l.drop pos) (z - 1 - zeros (l.take pos)) (0 + pos) = i at hr
  by_cases hi : i < 0
  · rw [if_pos hi, ptrAt_neg _ _ hi, ptrAt_neg _ _ (by omega)]
  · rw [if_neg hi, ptrAt_pos _ _ (by omega), ptrAt_pos _ _ (by omega)]
    unfold putP
    rw [if_neg (by omega), if_neg (by omega)]
    congr 2
    omega
end Go.Proofs.Qxb6613997a
