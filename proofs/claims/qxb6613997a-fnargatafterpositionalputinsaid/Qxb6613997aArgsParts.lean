import Derived.Test.Qxb6613997aRows
import Derived.WalkKit
import Derived.OwnWalk
import Derived.Below
namespace Go.Proofs.Qxb6613997a
open Go.RowKit
set_option linter.unusedVariables false

theorem hide {p : Prop} (h : p) : Hid p := h

/-- Every cell of the first n of block g is there and may be written. -/
def Free (w : World) (g n : Nat) : Prop := ∀ o, o < n → (∃ v, w.cell? ⟨g, o, none⟩ = some v) ∧ w.frozen? ⟨g, o, none⟩ = false

/-- The arguments: the j-th has kind K j, no keyword, and the value V j. -/
def ArgsAt (w : World) (g n : Nat) (K : Nat → Int) (V : Nat → Value) : Prop :=
  ∀ j, j < n → w.cell? ⟨g, 3 * j, none⟩ = some (.int .i64 (K j)) ∧ w.cell? ⟨g, 3 * j + 1, none⟩ = some (.string ⟨#[]⟩) ∧ w.cell? ⟨g, 3 * j + 2, none⟩ = some (V j)

theorem free_of_owns {w : World} {base e size g n cap : Nat} {xs : List Value} (h : w.ownsRow base e size (.slice (some ⟨g, 0, none⟩) n cap) n xs) : Free w g (n * size) :=
  fun o ho => ⟨⟨xs[o]'(by have := h.1; omega), by rw [h.cellAt o ho]; exact List.getElem?_eq_getElem _⟩, h.frozenAt o⟩
theorem owns_lt {w : World} {base e size g n cap : Nat} {xs : List Value} (h : w.ownsRow base e size (.slice (some ⟨g, 0, none⟩) n cap) n xs) : g < w.heap.size := by
  rcases h.2 with ⟨h', _⟩ | ⟨g', cap', cur, h', _, hg, _⟩
  · cases h'
  · cases h'
    exact (Array.getElem?_eq_some_iff.1 hg).1
theorem Free.grown {w w' : World} {g n : Nat} {row : Option Nat} (h : Free w g n) (hl : g < w.heap.size) (hr : some g ≠ row) (hg : w.grownBy w' row) : Free w' g n := by
  intro o ho
  have hb := hg.block g hl hr
  rw [World.cell?_of_block (a := ⟨g, o, none⟩) hb, World.frozen?_of_block (a := ⟨g, o, none⟩) hb]
  exact h o ho

theorem Free.alloc {w : World} {g n : Nat} (h : Free w g n) (hl : g < w.heap.size) (o : Obj) : Free (w.alloc o) g n := by
  intro i hi
  rw [World.cell?_alloc_past o g i hl, World.frozen?_alloc_past o g i hl]
  exact h i hi
theorem Free.setCell {w : World} {g n : Nat} (h : Free w g n) {a : Addr} (ha : a.block ≠ g) (u : Value) : Free (w.setCell a u) g n := by
  intro i hi
  have hb : (w.setCell a u).heap[(⟨g, i, none⟩ : Addr).block]? = w.heap[(⟨g, i, none⟩ : Addr).block]? := Below.heap_setCell _ _ _ _ (fun e => ha e.symm)
  rw [World.cell?_of_block hb, World.frozen?_of_block hb]
  exact h i hi

theorem Free.store {w : World} {g n : Nat} (h : Free w g n) (a : Addr) (u : Value) : Free (w.setCell a u) g n := by
  intro i hi
  obtain ⟨⟨v, hv⟩, hf⟩ := h i hi
  rw [World.frozen?_setCell]
  exact ⟨cell?_setCell_some hv, hf⟩
theorem ArgsAt.mono {w w' : World} {g n : Nat} {K : Nat → Int} {V : Nat → Value} (h : ArgsAt w g n K V) (hb : w'.heap[g]? = w.heap[g]?) : ArgsAt w' g n K V := by
  intro j hj
  rw [World.cell?_of_block (a := ⟨g, 3 * j, none⟩) hb, World.cell?_of_block (a := ⟨g, 3 * j + 1, none⟩) hb, World.cell?_of_block (a := ⟨g, 3 * j + 2, none⟩) hb]
  exact h j hj
theorem sc_other {w : World} {g a b : Nat} {u : Value} (h : a ≠ b) : (w.setCell ⟨g, a, none⟩ u).cell? ⟨g, b, none⟩ = w.cell? ⟨g, b, none⟩ :=
  World.cell?_setCell_other _ _ _ _ (fun e => h (by cases e; rfl))
theorem sc_same {w : World} {a : Addr} {u v : Value} (h : w.cell? a = some v) : (w.setCell a u).cell? a = some u := World.cell?_setCell_same _ _ _ h
theorem ArgsAt.snoc {w : World} {g n k : Nat} {K : Nat → Int} {V : Nat → Value} (hF : Free w g (n * 3)) (hk : k < n) (h : ArgsAt w g k K V) :
    ArgsAt (((w.setCell ⟨g, k * 3, none⟩ (.int .i64 (K k))).setCell ⟨g, k * 3 + 1, none⟩ (.string ⟨#[]⟩)).setCell ⟨g, k * 3 + 2, none⟩ (V k)) g (k + 1) K V := by
  intro j hj
  by_cases hjk : j = k
  · subst hjk
    have e0 : 3 * j = j * 3 := Nat.mul_comm _ _
    rw [e0]
    obtain ⟨⟨v0, p0⟩, _⟩ := hF (j * 3) (by omega)
    obtain ⟨⟨v1, p1⟩, _⟩ := (hF.store ⟨g, j * 3, none⟩ (.int .i64 (K j))) (j * 3 + 1) (by omega)
    obtain ⟨⟨v2, p2⟩, _⟩ := ((hF.store ⟨g, j * 3, none⟩ (.int .i64 (K j))).store ⟨g, j * 3 + 1, none⟩ (.string ⟨#[]⟩)) (j * 3 + 2) (by omega)
    refine ⟨?_, ?_, ?_⟩
    · rw [sc_other (by omega), sc_other (by omega), sc_same p0]
    · rw [sc_other (by omega), sc_same p1]
    · rw [sc_same p2]
  · obtain ⟨h0, h1, h2⟩ := h j (by omega)
    refine ⟨?_, ?_, ?_⟩
    · rw [sc_other (by omega), sc_other (by omega), sc_other (by omega)]; exact h0
    · rw [sc_other (by omega), sc_other (by omega), sc_other (by omega)]; exact h1
    · rw [sc_other (by omega), sc_other (by omega), sc_other (by omega)]; exact h2

/-- What a round of zzArgs does to its memory. -/
theorem args_round {w wr W3 : World} {g n k : Nat} {K : Nat → Int} {V : Nat → Value} {u : Value} {o1 o2 : Obj} (hBg : w.heap.size < g) (hg : g < wr.heap.size) (hA : Free wr w.heap.size (n * 3)) (hL : Free wr g n)
    (hb : Below w.heap.size w wr) (hargs : ArgsAt wr w.heap.size k K V) (hk : k < n) (hW : (wr.setCell ⟨g, k, none⟩ u).alloc o1 = W3) {v : Value} (hv : V k = v) {W5 : World}
    (h5 : W5 = ((((W3.setCell ⟨w.heap.size, k * 3, none⟩ (.int .i64 (K k))).setCell ⟨w.heap.size, k * 3 + 1, none⟩ (.string ⟨#[]⟩)).setCell ⟨w.heap.size, k * 3 + 2, none⟩ v).alloc o2).drew) :
    Free W5 w.heap.size (n * 3) ∧ Free W5 g n ∧ Below w.heap.size w W5 ∧ W5.heap.size = wr.heap.size + 2 ∧ ArgsAt W5 w.heap.size (k + 1) K V := by
  subst hv h5
  have s3 : W3.heap.size = wr.heap.size + 1 := by rw [← hW]; simp
  have fA : Free W3 w.heap.size (n * 3) := by
    rw [← hW]; exact (hA.store _ _).alloc (by simp; omega) _
  have fL : Free W3 g n := by
    rw [← hW]; exact (hL.store _ _).alloc (by simp; omega) _
  have a3 : ArgsAt W3 w.heap.size k K V := by
    refine hargs.mono ?_
    rw [← hW, Below.heap_alloc _ _ _ (by simp; omega), Below.heap_setCell _ _ _ _ (show w.heap.size ≠ g by omega)]
  have b3 : Below w.heap.size w W3 := by
    rw [← hW]; exact (hb.setCell (p := ⟨g, k, none⟩) (Nat.le_of_lt hBg) _).alloc (by simp; omega) _
  refine ⟨?_, ?_, ?_, ?_, ?_⟩
  · exact (((fA.store _ _).store _ _).store _ _).alloc (by simp; omega) _
  · exact (((fL.store _ _).store _ _).store _ _).alloc (by simp; omega) _
  · exact ((((b3.setCell (p := ⟨w.heap.size, _, none⟩) (Nat.le_refl _) _).setCell (p := ⟨w.heap.size, _, none⟩) (Nat.le_refl _) _).setCell (p := ⟨w.heap.size, _, none⟩) (Nat.le_refl _) _).alloc (by simp; omega) _).drew
  · show (World.alloc _ _).heap.size = _
    simp; omega
  · refine ArgsAt.mono (ArgsAt.snoc fA hk a3) ?_
    exact Below.heap_alloc _ _ _ (by simp; omega)

/-- What a walk is told of a slice of ints, nil or not: its elements are the list's. -/
def Ints (w : World) (a : Option Addr) (n cap : Nat) (l : List Int) : Prop :=
  (a = none → n = 0 ∧ cap = 0) ∧ ∀ ad, a = some ad → ∀ k, k < n → w.cell? (ad.add k) = some (.int .i64 (l.getD k 0))

theorem Ints.below {w w' : World} {a : Option Addr} {n cap : Nat} {l : List Int} (h : Ints w a n cap l) (hb : Below w.heap.size w w') : Ints w' a n cap l :=
  ⟨h.1, fun ad e k hk => (hb.cell (p := ad.add k) (World.block_lt_of_cell? w _ (h.2 ad e k hk))).trans (h.2 ad e k hk)⟩
theorem ArgsAt.below {w w' : World} {g n : Nat} {K : Nat → Int} {V : Nat → Value} (h : ArgsAt w g n K V) (hg : g < w.heap.size) (hb : Below w.heap.size w w') : ArgsAt w' g n K V :=
  h.mono (hb.block g hg)
theorem Below.next {w w' w'' : World} (h : Below w.heap.size w w') (h' : Below w'.heap.size w' w'') : Below w.heap.size w w'' := h.trans (h'.mono h.size)
end Go.Proofs.Qxb6613997a
