/-
  What a part of the program leaves as it was: every block outside a list.
-/
import Derived.Test.Qxb6612885aRot
import Derived.Below
namespace Go.Proofs.Qxb6612885a
open Go.Shelf Go.RowKit Go.Lib Go.Sort
variable {α : Type} [Inhabited α]

/-- Every block that was there, but those of X, is as it was. -/
structure Keep (X : List Nat) (w w' : World) : Prop where
  os : w'.os = w.os
  tape : w'.tape = w.tape
  output : w'.output = w.output
  size : w.heap.size ≤ w'.heap.size
  block : ∀ k, k < w.heap.size → k ∉ X → w'.heap[k]? = w.heap[k]?

theorem Keep.refl (X : List Nat) (w : World) : Keep X w w := ⟨rfl, rfl, rfl, Nat.le_refl _, fun _ _ _ => rfl⟩
theorem Keep.trans {X : List Nat} {a b c : World} (h : Keep X a b) (k : Keep X b c) : Keep X a c :=
  ⟨k.os.trans h.os, k.tape.trans h.tape, k.output.trans h.output, Nat.le_trans h.size k.size, fun i hi hx => (k.block i (Nat.lt_of_lt_of_le hi h.size) hx).trans (h.block i hi hx)⟩
theorem Keep.mono {X Y : List Nat} {w w' : World} (h : Keep X w w') (hs : ∀ k, k ∈ X → k ∈ Y ∨ w.heap.size ≤ k) : Keep Y w w' :=
  ⟨h.os, h.tape, h.output, h.size, fun k hk hx => h.block k hk fun hX => by rcases hs k hX with h1 | h1; exact hx h1; omega⟩
theorem Keep.drewN {X : List Nat} {a w : World} (h : Keep X a w) (q : Nat) : Keep X a (w.drewN q) := by
  refine h.trans ?_
  clear h
  induction q with
  | zero => exact Keep.refl X w
  | succ q ih => exact ih.trans ⟨rfl, rfl, rfl, Nat.le_refl _, fun _ _ _ => rfl⟩
theorem Keep.alloc {X : List Nat} {a w : World} (h : Keep X a w) (o : Obj) : Keep X a (w.alloc o) :=
  h.trans ⟨rfl, rfl, rfl, by simp, fun k hk _ => Below.heap_alloc _ _ _ hk⟩
theorem Keep.setCell {X : List Nat} {a w : World} (h : Keep X a w) {p : Addr} (hp : p.block ∈ X ∨ a.heap.size ≤ p.block) (u : Value) : Keep X a (w.setCell p u) :=
  ⟨h.os, h.tape, h.output, by have := h.size; simpa [World.setCell] using this, fun k hk hx => by
    rw [Below.heap_setCell _ _ _ _ (fun e => by subst e; rcases hp with hp | hp; exact hx hp; omega)]
    exact h.block k hk hx⟩
theorem Keep.cell {X : List Nat} {w w' : World} (h : Keep X w w') {p : Addr} (hp : p.block < w.heap.size) (hx : p.block ∉ X) : w'.cell? p = w.cell? p := World.cell?_of_block (w := w) (h.block p.block hp hx)
theorem Keep.frozen {X : List Nat} {w w' : World} (h : Keep X w w') {p : Addr} (hp : p.block < w.heap.size) (hx : p.block ∉ X) : w'.frozen? p = w.frozen? p := World.frozen?_of_block (w := w) (h.block p.block hp hx)
theorem Keep.holds {X : List Nat} {w w' : World} (h : Keep X w w') {enc : α → Value} {blk off : Nat} {d : Array α} (hb : blk < w.heap.size) (hx : blk ∉ X) (hh : Holds enc w blk off d) : Holds enc w' blk off d := fun j hj =>
  ⟨by rw [h.cell hb hx]; exact (hh j hj).1, by rw [h.frozen hb hx]; exact (hh j hj).2⟩
theorem Keep.below {X : List Nat} {w w' : World} (h : Keep X w w') {B : Nat} (hB : B ≤ w.heap.size) (hx : ∀ k, k ∈ X → B ≤ k) : Below B w w' :=
  ⟨h.os, h.tape, h.output, h.size, fun k hk => h.block k (by omega) fun hX => by have := hx k hX; omega⟩
theorem Keep.of_below {w w' : World} (h : Below w.heap.size w w') (X : List Nat) : Keep X w w' := ⟨h.os, h.tape, h.output, h.size, fun k hk _ => h.block k hk⟩
theorem Leaves.keep {enc : α → Value} {W w' : World} {blk off : Nat} {d : Array α} (h : Leaves enc W blk off d w') : Keep [blk] W w' := by
  obtain ⟨n, os, rfl⟩ := h
  refine ⟨rfl, rfl, rfl, by simp [sortWorld, grow, putRow, mapBlock, Sort.ahead], fun k hk hx => ?_⟩
  have hne : k ≠ blk := fun e => hx (by rw [e]; simp)
  show ((W.heap.modify blk _) ++ os)[k]? = _
  rw [Array.getElem?_append_left (by simpa using hk), Array.getElem?_modify, if_neg (fun e => hne e.symm)]

/-! ### blocks by their kind -/
/-- block b holds cells of type t, none frozen -/
def Tag (w : World) (b : Nat) (t : TypeId) : Prop := ∃ cs, w.heap[b]? = some (.cells cs t (0, 0))
theorem Tag.lt {w : World} {b : Nat} {t : TypeId} (h : Tag w b t) : b < w.heap.size := by
  obtain ⟨cs, h⟩ := h; exact (Array.getElem?_eq_some_iff.1 h).1
theorem Tag.keep {X : List Nat} {w w' : World} {b : Nat} {t : TypeId} (h : Tag w b t) (hk : Keep X w w') (hx : b ∉ X) : Tag w' b t := by
  obtain ⟨cs, h'⟩ := h; exact ⟨cs, by rw [hk.block b (Tag.lt ⟨cs, h'⟩) hx]; exact h'⟩
theorem Tag.setCell {w : World} {b : Nat} {t : TypeId} (h : Tag w b t) (a : Addr) (v : Value) : Tag (w.setCell a v) b t := by
  obtain ⟨cs, h⟩ := h
  simp only [Tag, World.setCell, Array.getElem?_modify]
  by_cases e : a.block = b
  · subst e
    rw [if_pos rfl, h]
    simp only [Option.map_some]
    exact ⟨_, rfl⟩
  · rw [if_neg e]; exact ⟨cs, h⟩
theorem Tag.ne {w : World} {b c : Nat} {t u : TypeId} (h : Tag w b t) (h' : Tag w c u) (hne : t ≠ u) : b ≠ c := by
  rintro rfl
  obtain ⟨_, h⟩ := h
  obtain ⟨_, h'⟩ := h'
  rw [h] at h'
  simp at h'
  exact hne h'.2
theorem Tag.leaves {enc : α → Value} {W w' : World} {blk off : Nat} {d : Array α} {b : Nat} {t : TypeId} (h : Tag W b t) (hl : Leaves enc W blk off d w') : Tag w' b t := by
  by_cases e : b = blk
  · subst e
    have hlt := h.lt
    obtain ⟨cs, h⟩ := h
    obtain ⟨n, os, rfl⟩ := hl
    refine ⟨putCells enc off d cs, ?_⟩
    show ((W.heap.modify b _) ++ os)[b]? = _
    rw [Array.getElem?_append_left (by simpa using hlt), Array.getElem?_modify, if_pos rfl, h]
    rfl
  · exact h.keep hl.keep (by simpa using e)

/-- block b is one variable of type t that holds v -/
def Box (w : World) (b : Nat) (v : Value) (t : TypeId) : Prop := w.heap[b]? = some (.cells #[v] t (0, 0))
theorem Box.tag {w : World} {b : Nat} {v : Value} {t : TypeId} (h : Box w b v t) : Tag w b t := ⟨_, h⟩
theorem Box.cell {w : World} {b : Nat} {v : Value} {t : TypeId} (h : Box w b v t) : w.cell? ⟨b, 0, none⟩ = some v := by
  unfold Box at h; unfold World.cell?; rw [h]; rfl
theorem Box.frozen {w : World} {b : Nat} {v : Value} {t : TypeId} (h : Box w b v t) : w.frozen? ⟨b, 0, none⟩ = false := by
  unfold Box at h; unfold World.frozen?; rw [h]; rfl
theorem Box.keep {X : List Nat} {w w' : World} {b : Nat} {v : Value} {t : TypeId} (h : Box w b v t) (hk : Keep X w w') (hx : b ∉ X) : Box w' b v t := by
  unfold Box; rw [hk.block b h.tag.lt hx]; exact h
theorem Box.set {w : World} {b : Nat} {v : Value} {t : TypeId} (h : Box w b v t) (v' : Value) : Box (w.setCell ⟨b, 0, none⟩ v') b v' t := by
  unfold Box at h
  simp only [Box, World.setCell, Array.getElem?_modify]
  rw [if_pos trivial, h]
  rfl
theorem Box.new (w : World) (v : Value) (t : TypeId) : Box (w.alloc (.cells #[v] t)) w.heap.size v t := by
  unfold Box World.alloc
  simp

theorem own_tag_ne {w : World} {base : Nat} {e : TypeId} {size : Nat} {v : Value} {n : Nat} {xs : List Value} (h : w.ownsRow base e size v n xs) {b : Nat} {t : TypeId} (hb : Tag w b t) (hne : t ≠ e) : v.ownBlock ≠ some b := by
  obtain ⟨c, hb⟩ := hb
  intro hv
  rcases h.2 with ⟨rfl, _⟩ | ⟨g, cap, cur, rfl, _, hg, _⟩
  · simp [Value.ownBlock] at hv
  · simp [Value.ownBlock] at hv
    subst hv
    rw [hb] at hg
    simp at hg
    exact hne hg.2

end Go.Proofs.Qxb6612885a
