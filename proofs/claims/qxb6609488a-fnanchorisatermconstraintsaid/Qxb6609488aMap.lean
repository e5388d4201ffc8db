/-
  Maps of strings by strings.
-/
import Derived.Test.Qxb6609488aBig
import Derived.Maps.StringElems
import Derived.StringKeys
namespace Go.Proofs.Qxb6609488a
open Go.RowKit Go.Maps

theorem law9 : Keyed Try.prog 9 := string_keyed Try.underlying9
theorem zero9 (w : World) : (zeroValue 9).run Try.prog w = .ok (.string ByteArray.empty) w := by kernel_rfl
def lit (k : ByteArray) : Lit := .string k.data.toList
theorem key9 {k : ByteArray} (h : k.size ≤ maxLen) : keyOf Try.prog 9 (.string k) = some (lit k) := WideMaps.keyOf_string_mk Try.underlying9 h
theorem bytes_eq {a b : ByteArray} (h : a.data.toList = b.data.toList) : a = b := by
  cases a; cases b; simp at h; rw [h]
theorem lit_inj {a b : ByteArray} (h : lit a = lit b) : a = b := by
  unfold lit at h
  exact bytes_eq (by simpa using h)

/-- what is read at a key -/
def litOf (f : Option ByteArray) (zd : DataW Unit) : DataW Unit := match f with
  | some v => .lit (.string v.data.toList)
  | none => zd

/-- the block M is a map that holds at each key what f says -/
def MapF (w : World) (M n : Nat) (f : ByteArray → Option ByteArray) : Prop := ∃ D : DataW Unit, w.ownsMap Try.prog 9 (plainElem Try.prog 9) M n D ∧ ∀ k : ByteArray, k.size ≤ maxLen → ∀ zd, D.atKey (lit k) zd = litOf (f k) zd

theorem MapF.has {f : ByteArray → Option ByteArray} {D : DataW Unit} (h2 : ∀ k : ByteArray, k.size ≤ maxLen → ∀ zd, D.atKey (lit k) zd = litOf (f k) zd) {k : ByteArray} (hk : k.size ≤ maxLen) : Maps.has D (lit k) = (f k).isSome := by
  have h := h2 k hk
  cases e : f k with
  | none => rw [e] at h; exact has_false_of_atKey h
  | some v => rw [e] at h; exact has_true_of_atKey h

theorem MapF.look_ok {w : World} {M n : Nat} {f : ByteArray → Option ByteArray} (h : MapF w M n f) {k : ByteArray} (hk : k.size ≤ maxLen) : (Instr.lookup 25 (.map (some M)) (.string k) true).run Try.prog w = .ok (.tuple #[.string ((f k).getD ByteArray.empty), .bool (f k).isSome]) w := by
  obtain ⟨D, h1, h2⟩ := h
  obtain ⟨v, ps, hrun, hv⟩ := h1.look_ok law9 Try.underlying25 (zero9 w) (plainElem_string Try.underlying9 (by decide)) (key9 hk)
  rw [MapF.has h2 hk, h2 k hk] at *
  obtain ⟨s, rfl, hs, _⟩ := plainElem_string_inv Try.underlying9 hv
  rw [hrun]
  cases e : f k with
  | none =>
    rw [e] at hs
    simp only [litOf, Prod.mk.injEq, DataW.lit.injEq, Lit.string.injEq] at hs
    rw [← bytes_eq hs.1]; rfl
  | some x =>
    rw [e] at hs
    simp only [litOf, Prod.mk.injEq, DataW.lit.injEq, Lit.string.injEq] at hs
    rw [← bytes_eq hs.1]; rfl

theorem MapF.look {w : World} {M n : Nat} {f : ByteArray → Option ByteArray} (h : MapF w M n f) {k : ByteArray} (hk : k.size ≤ maxLen) : (Instr.lookup 25 (.map (some M)) (.string k) false).run Try.prog w = .ok (.string ((f k).getD ByteArray.empty)) w := by
  obtain ⟨D, h1, h2⟩ := h
  obtain ⟨v, ps, hrun, hv⟩ := h1.lookup law9 Try.underlying25 (zero9 w) (plainElem_string Try.underlying9 (by decide)) (key9 hk)
  rw [h2 k hk] at hv
  obtain ⟨s, rfl, hs, _⟩ := plainElem_string_inv Try.underlying9 hv
  rw [hrun]
  cases e : f k with
  | none =>
    rw [e] at hs
    simp only [litOf, Prod.mk.injEq, DataW.lit.injEq, Lit.string.injEq] at hs
    rw [← bytes_eq hs.1]; rfl
  | some x =>
    rw [e] at hs
    simp only [litOf, Prod.mk.injEq, DataW.lit.injEq, Lit.string.injEq] at hs
    rw [← bytes_eq hs.1]; rfl

theorem MapF.made (w : World) : MapF (w.alloc (.map #[] 0)) w.heap.size 0 (fun _ => none) :=
  ⟨.map [], World.ownsMap_made w Try.prog 9 _, fun _ _ _ => rfl⟩

theorem MapF.below {B : Nat} {w w' : World} {M n : Nat} {f : ByteArray → Option ByteArray} (h : MapF w M n f) (hb : Below B w w') (hM : M < B) : MapF w' M n f := by
  obtain ⟨D, ⟨es, clock, e1, e2⟩, h2⟩ := h
  exact ⟨D, ⟨es, clock, by rw [hb.block M hM]; exact e1, e2⟩, h2⟩

theorem MapF.kept {w w' : World} {M n : Nat} {f : ByteArray → Option ByteArray} (h : MapF w M n f) (hb : w'.heap[M]? = w.heap[M]?) : MapF w' M n f := by
  obtain ⟨D, ⟨es, clock, e1, e2⟩, h2⟩ := h
  exact ⟨D, ⟨es, clock, by rw [hb]; exact e1, e2⟩, h2⟩

theorem isKeyLit (k : ByteArray) : WideAt.IsKeyLit (lit k) := by
  unfold lit; trivial

/-- 'm[k] = v' -/
theorem MapF.update {w : World} {M n : Nat} {f : ByteArray → Option ByteArray} (h : MapF w M n f) (hn : n < maxLen) {k v : ByteArray} (hk : k.size ≤ maxLen) (hv : v.size ≤ maxLen) :
    ∃ w', (Instr.mapUpdate 25 (.map (some M)) (.string k) (.string v)).run Try.prog w = .ok () w' ∧ MapF w' M (n + 1) (fun x => if k = x then some v else f x) ∧ w.grownBy w' (some M) := by
  obtain ⟨D, h1, h2⟩ := h
  obtain ⟨w', e1, e2, e3⟩ := h1.update law9 Try.underlying25 hn (key9 hk) (plainElem_string Try.underlying9 hv)
  refine ⟨w', e1, ⟨_, e2, fun x hx zd => ?_⟩, e3⟩
  by_cases e : k = x
  · subst e
    rw [atKey_put_same h1.isMap (isKeyLit k)]
    simp only [if_true]; rfl
  · rw [atKey_put_other (fun h => e (lit_inj h).symm), h2 x hx]
    simp only [e, if_false]

end Go.Proofs.Qxb6609488a
