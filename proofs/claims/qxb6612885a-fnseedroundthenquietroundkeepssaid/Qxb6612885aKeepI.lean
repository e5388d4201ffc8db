/-
  What the rounds leave as it was: every block outside a list that lies below 'base' or holds no row of ints.
-/
import Derived.Test.Qxb6612885aDl
namespace Go.Proofs.Qxb6612885a
open Go.Shelf Go.RowKit Go.Lib Go.Sort
variable {α : Type} [Inhabited α]

structure KeepI (base : Nat) (X : List Nat) (w w' : World) : Prop where
  os : w'.os = w.os
  tape : w'.tape = w.tape
  output : w'.output = w.output
  size : w.heap.size ≤ w'.heap.size
  block : ∀ k, k < w.heap.size → k ∉ X → (k < base ∨ ∃ t, Tag w k t ∧ t ≠ 3) → w'.heap[k]? = w.heap[k]?

variable {base : Nat} {X Y : List Nat} {w w' w2 : World}

theorem KeepI.refl (base : Nat) (X : List Nat) (w : World) : KeepI base X w w := ⟨rfl, rfl, rfl, Nat.le_refl _, fun _ _ _ _ => rfl⟩
theorem KeepI.trans (h : KeepI base X w w') (k : KeepI base X w' w2) : KeepI base X w w2 :=
  ⟨k.os.trans h.os, k.tape.trans h.tape, k.output.trans h.output, Nat.le_trans h.size k.size, fun i hi hx hc => by
    have e := h.block i hi hx hc
    refine (k.block i (Nat.lt_of_lt_of_le hi h.size) hx ?_).trans e
    rcases hc with hc | ⟨t, ⟨cs, ht⟩, hne⟩
    · exact .inl hc
    · exact .inr ⟨t, ⟨cs, by rw [e]; exact ht⟩, hne⟩⟩
theorem KeepI.of_keep (h : Keep X w w') (hX : ∀ k, k ∈ X → k ∈ Y ∨ w.heap.size ≤ k ∨ (base ≤ k ∧ Tag w k 3)) : KeepI base Y w w' :=
  ⟨h.os, h.tape, h.output, h.size, fun k hk hy hc => h.block k hk fun hx => by
    rcases hX k hx with h1 | h1 | ⟨h1, h2⟩
    · exact hy h1
    · omega
    · rcases hc with hc | ⟨t, ht, hne⟩
      · omega
      · exact ht.ne h2 hne rfl⟩
theorem KeepI.of_nil (h : Keep [] w w') : KeepI base Y w w' := KeepI.of_keep h (fun k hk => by cases hk)
theorem KeepI.mono (h : KeepI base X w w') (hX : ∀ k, k ∈ X → k ∈ Y ∨ w.heap.size ≤ k) : KeepI base Y w w' :=
  ⟨h.os, h.tape, h.output, h.size, fun k hk hy hc => h.block k hk (fun hx => by rcases hX k hx with h1 | h1; exact hy h1; omega) hc⟩
theorem KeepI.alloc (h : KeepI base X w w') (o : Obj) : KeepI base X w (w'.alloc o) := h.trans (KeepI.of_nil ((Keep.refl [] w').alloc o))
theorem KeepI.drewN (h : KeepI base X w w') (q : Nat) : KeepI base X w (w'.drewN q) := h.trans (KeepI.of_nil ((Keep.refl [] w').drewN q))
theorem KeepI.setCell (h : KeepI base X w w') {p : Addr} (hp : p.block ∈ X ∨ w.heap.size ≤ p.block) (u : Value) : KeepI base X w (w'.setCell p u) :=
  ⟨h.os, h.tape, h.output, by have := h.size; simpa [World.setCell] using this, fun k hk hx hc => by
    rw [Below.heap_setCell _ _ _ _ (fun e => by subst e; rcases hp with hp | hp; exact hx hp; omega)]
    exact h.block k hk hx hc⟩
theorem KeepI.of_own {e : Nat} {v : Value} {n : Nat} {xs : List Value} (hk : Keep v.ownBlock.toList w w') (ho : w.ownsRow base 3 e v n xs) : KeepI base X w w' :=
  KeepI.of_keep hk fun k hkm => by
    simp at hkm
    rcases ho.2 with ⟨rfl, _⟩ | ⟨g, cap, cur, rfl, hb, hg, _⟩
    · simp [Value.ownBlock] at hkm
    · simp [Value.ownBlock] at hkm
      subst hkm
      exact .inr (.inr ⟨hb, cur, hg⟩)
theorem KeepI.of_grown {e : Nat} {v : Value} {n : Nat} {xs : List Value} (hg : w.grownBy w' v.ownBlock) (ho : w.ownsRow base 3 e v n xs) : KeepI base X w w' :=
  KeepI.of_own (⟨hg.os, hg.tape, hg.output, hg.size, fun k hk hx => hg.block k hk (fun e => hx (by rw [← e]; simp))⟩ : Keep v.ownBlock.toList w w') ho

theorem KeepI.tag (h : KeepI base X w w') {b : Nat} {t : TypeId} (ht : Tag w b t) (hx : b ∉ X) (hne : t ≠ 3) : Tag w' b t := by
  obtain ⟨cs, hb⟩ := ht
  exact ⟨cs, by rw [h.block b (Tag.lt ⟨cs, hb⟩) hx (.inr ⟨t, ⟨cs, hb⟩, hne⟩)]; exact hb⟩
theorem KeepI.box (h : KeepI base X w w') {b : Nat} {v : Value} {t : TypeId} (ht : Box w b v t) (hx : b ∉ X) (hne : t ≠ 3) : Box w' b v t := by
  unfold Box; rw [h.block b ht.tag.lt hx (.inr ⟨t, ht.tag, hne⟩)]; exact ht
theorem KeepI.same (h : KeepI base X w w') {b : Nat} {t : TypeId} (ht : Tag w b t) (hx : b ∉ X) (hne : t ≠ 3) : w'.heap[b]? = w.heap[b]? := h.block b ht.lt hx (.inr ⟨t, ht, hne⟩)
theorem KeepI.cell (h : KeepI base X w w') {b : Nat} {t : TypeId} (ht : Tag w b t) (hx : b ∉ X) (hne : t ≠ 3) (o : Nat) : w'.cell? ⟨b, o, none⟩ = w.cell? ⟨b, o, none⟩ := World.cell?_of_block (w := w) (h.same ht hx hne)
theorem KeepI.frz (h : KeepI base X w w') {b : Nat} {t : TypeId} (ht : Tag w b t) (hx : b ∉ X) (hne : t ≠ 3) (o : Nat) : w'.frozen? ⟨b, o, none⟩ = w.frozen? ⟨b, o, none⟩ := World.frozen?_of_block (w := w) (h.same ht hx hne)
theorem KeepI.nsAt (h : KeepI base X w w') {b : Nat} {t : TypeId} (ht : Tag w b t) (hx : b ∉ X) (hne : t ≠ 3) {ns : List N} (hn : NsAt w b ns) : NsAt w' b ns := fun i hi =>
  ⟨(hn i hi).1.of_cells fun c _ => h.cell ht hx hne _, fun c hc => by rw [h.frz ht hx hne]; exact (hn i hi).2 c hc⟩
theorem KeepI.holds (h : KeepI base X w w') {b : Nat} {t : TypeId} (ht : Tag w b t) (hx : b ∉ X) (hne : t ≠ 3) {enc : α → Value} {off : Nat} {d : Array α} (hn : Holds enc w b off d) : Holds enc w' b off d := fun j hj =>
  ⟨by rw [h.cell ht hx hne]; exact (hn j hj).1, by rw [h.frz ht hx hne]; exact (hn j hj).2⟩
theorem KeepI.below (h : KeepI base X w w') (hB : base ≤ w.heap.size) (hx : ∀ k, k ∈ X → base ≤ k) : RowKit.Below base w w' :=
  ⟨h.os, h.tape, h.output, h.size, fun k hk => h.block k (by omega) (fun hX => by have := hx k hX; omega) (.inl hk)⟩

/-- an owned row of ints is kept where only other kinds are written -/
theorem own_setCell {base : Nat} {e : Nat} {v : Value} {n : Nat} {xs : List Value} (ho : w.ownsRow base 3 e v n xs) {p : Addr} {t : TypeId} (ht : Tag w p.block t) (hne : t ≠ 3) (u : Value) : (w.setCell p u).ownsRow base 3 e v n xs :=
  own_keep (X := [p.block]) ((Keep.refl _ w).setCell (.inl (by simp)) u) ho (fun b hb => by simp at hb; subst hb; exact own_tag_ne ho ht hne)
theorem own_cut0 {base : Nat} {e : TypeId} {v : Value} {n g co : Nat} {xs : List Value} (ho : w.ownsRow base e 1 v n xs) (hv : v = .slice (some ⟨g, 0, none⟩) n co) : w.ownsRow base e 1 (.slice (some ⟨g, 0, none⟩) 0 co) 0 [] := by
  subst hv
  rcases ho.2 with ⟨h0, _⟩ | ⟨g', cap, cur, h0, hb, hg, h1, h2, h3, h4⟩
  · cases h0
  · simp at h0
    obtain ⟨rfl, rfl⟩ := h0
    exact ⟨by simp, .inr ⟨g, co, cur, rfl, hb, hg, by omega, h2, h3, by simp⟩⟩

theorem KeepI.then {Z : List Nat} (h : KeepI base X w w') (k : KeepI base Z w' w2) (hz : ∀ b, b ∈ Z → b ∈ X ∨ w.heap.size ≤ b) : KeepI base X w w2 :=
  KeepI.mono (X := X ++ Z) ((h.mono (fun b hb => .inl (by simp [hb]))).trans (k.mono (fun b hb => .inl (by simp [hb])))) (fun b hb => by
    rw [List.mem_append] at hb
    rcases hb with hb | hb
    · exact .inl hb
    · exact hz b hb)
theorem own_slice {base : Nat} {e : TypeId} {size : Nat} {v : Value} {n : Nat} {xs : List Value} (ho : w.ownsRow base e size v n xs) : ∃ a c, v = .slice a n c := by
  rcases ho.2 with ⟨h, h0⟩ | ⟨g, cap, _, h, _⟩
  · exact ⟨none, 0, by rw [h, h0]⟩
  · exact ⟨_, cap, h⟩

theorem own_cap {base : Nat} {e : TypeId} {size : Nat} {a : Option Addr} {n c : Nat} {xs : List Value} (ho : w.ownsRow base e size (.slice a n c) n xs) : n ≤ c ∧ c ≤ maxLen := by
  rcases ho.2 with ⟨h, h0⟩ | ⟨g, cap, _, h, _, _, h1, h2, _⟩
  · simp at h; unfold maxLen; omega
  · simp at h; obtain ⟨_, rfl⟩ := h; exact ⟨h1, h2⟩

theorem own_some {base : Nat} {e : TypeId} {size : Nat} {a : Option Addr} {n c : Nat} {xs : List Value} (ho : w.ownsRow base e size (.slice a n c) n xs) (hn : 0 < n) : ∃ g, a = some ⟨g, 0, none⟩ := by
  rcases ho.2 with ⟨h, h0⟩ | ⟨g, cap, _, h, _⟩
  · omega
  · simp at h; exact ⟨g, h.1⟩
theorem own_at {base g c : Nat} {l : List Nat} (ho : w.ownsRow base 3 1 (.slice (some ⟨g, 0, none⟩) l.length c) l.length (l.map enI)) (p : Nat) (hp : p < l.length) : w.cell? ⟨g, p, none⟩ = some (.int .i64 (l[p]! : Nat)) := by
  rw [ho.cellAt p (by omega), List.getElem?_map, List.getElem?_eq_getElem hp, getElem!_pos l p hp]
  rfl

theorem chk_set4 {bc : Nat} {c0 c1 c2 c3 c4 : Value} {t : TypeId} (h : w.heap[bc]? = some (.cells #[c0, c1, c2, c3, c4] t (0, 0))) (v : Value) : (w.setCell ⟨bc, 4, none⟩ v).heap[bc]? = some (.cells #[c0, c1, c2, c3, v] t (0, 0)) := by
  simp only [World.setCell, Array.getElem?_modify]
  rw [if_pos trivial, h]
  rfl
theorem chk_set3 {bc : Nat} {c0 c1 c2 c3 c4 : Value} {t : TypeId} (h : w.heap[bc]? = some (.cells #[c0, c1, c2, c3, c4] t (0, 0))) (v : Value) : (w.setCell ⟨bc, 3, none⟩ v).heap[bc]? = some (.cells #[c0, c1, c2, v, c4] t (0, 0)) := by
  simp only [World.setCell, Array.getElem?_modify]
  rw [if_pos trivial, h]
  rfl

theorem own_cut {base : Nat} {e : TypeId} {a : Option Addr} {n c : Nat} {xs : List Value} (ho : w.ownsRow base e 1 (.slice a n c) n xs) : w.ownsRow base e 1 (.slice a 0 c) 0 [] := by
  rcases ho.2 with ⟨h0, _⟩ | ⟨g', cap, cur, h0, hb, hg, h1, h2, h3, h4⟩
  · simp at h0
    obtain ⟨rfl, rfl, rfl⟩ := h0
    exact World.ownsRow_nil _ _ _ _
  · simp at h0
    obtain ⟨rfl, rfl⟩ := h0
    exact ⟨by simp, .inr ⟨g', c, cur, rfl, hb, hg, by omega, h2, h3, by simp⟩⟩

end Go.Proofs.Qxb6612885a
