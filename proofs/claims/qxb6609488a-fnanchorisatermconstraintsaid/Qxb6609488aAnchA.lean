/-
  anchor, where matchLabels gives one.
-/
import Derived.Test.Qxb6609488aAnch
import Derived.Maps.RangeWalk
namespace Go.Proofs.Qxb6609488a
open Go.RowKit Go.Maps

theorem keyInv (key : Value) (kl : Lit) (h : keyOf Try.prog 9 key = some kl) : ∃ x : ByteArray, key = .string x := by
  obtain ⟨s, e, _⟩ := WideMaps.string_of_keyOf Try.underlying9 h
  exact ⟨s, e⟩

theorem valInv (v : Value) (y : DataW Unit × List MemPlace) (h : plainElem Try.prog 9 v = some y) : ∃ c : ByteArray, v = .string c := by
  obtain ⟨s, e, _⟩ := plainElem_string_inv Try.underlying9 h
  exact ⟨s, e⟩

theorem has_size {D : DataW Unit} {k : Lit} (hD : IsMap D) (h : Maps.has D k = true) : 0 < Maps.size D := by
  obtain ⟨es, rfl⟩ := hD
  cases es with
  | nil => simp [Maps.has] at h
  | cons a r => simp [Maps.size]

theorem lastOf_some {ls : List (ByteArray × ByteArray)} : ∀ {n : Nat}, 0 < n → (lastOf ls ls[n - 1]!.1 n).isSome = true
  | n + 1, _ => by simp [lastOf]

def AnchAPost (ls : List (ByteArray × ByteArray)) (w : World) (e : Ending) (w' : World) : Prop :=
  ∃ key v x, e = .returned (.tuple #[.string key, v, .bool true]) ∧ key.size ≤ maxLen ∧ lastOf ls key ls.length = some x ∧ SH w' v [x] ∧ Below w.heap.size w w'

def RelA (w : World) (M n : Nat) (D : DataW Unit) (v4 v7 : Value) (wr : World) : Prop :=
  ∃ left cnt first s, wr.ranges Try.prog 9 (plainElem Try.prog 9) M w.heap.size n D left cnt ∧ v4 = .string s ∧ v7 = .bool first ∧ (first = true → left = Maps.has D) ∧ (first = false → s.size ≤ maxLen ∧ Maps.has D (lit s) = true) ∧ Below w.heap.size w wr

set_option maxHeartbeats 4000000 in
set_option maxRecDepth 100000 in
theorem anchA (T Pd L M n : Nat) (ls : List (ByteArray × ByteArray)) (w : World) (hT0 : w.cell? ⟨T, 0, none⟩ = some (.pointer (some ⟨L, 0, none⟩))) (hL0 : w.cell? ⟨L, 0, none⟩ = some (.map (some M))) (hM : MapF w M n (fun k => lastOf ls k ls.length)) (hls : 0 < ls.length) (hf : Fits ls) :
    Calls Try.prog 10 #[.pointer (some ⟨T, 0, none⟩), .pointer (some ⟨Pd, 0, none⟩)] w (AnchAPost ls w) := by
  have hlook := fun k (hk : ByteArray.size k ≤ maxLen) W (hW : W.heap[M]? = w.heap[M]?) => (hM.kept (w' := W) hW).look hk
  have hMlt := hM.lt
  obtain ⟨D, hown, hat⟩ := hM
  have hh := fun (k : ByteArray) (hk : k.size ≤ maxLen) => MapF.has hat hk
  have h0 := hh ls[ls.length - 1]!.1 (hf _ (by omega)).1
  rw [lastOf_some hls] at h0
  have hpos := has_size hown.isMap h0
  have hlen := fun ty => hown.len Try.underlying25 ty
  have hTl := World.block_lt_of_cell? w _ hT0
  have hLl := World.block_lt_of_cell? w _ hL0
  generalize hsz : Maps.size D = sz at *
  go_enter Try.func10, Try.ntmps10
  go_wp2_with (at_range; refine wpList_range_own _ rfl _ 25 rfl 9 9 law9 Try.underlying25 (plainElem Try.prog 9) M n D rfl hown ?_; intro w0 hrg0 hg0 hs0)
  have hb0 : Below w.heap.size w w0 := (Below.refl _ _).grown hg0 (Nat.le_refl _) (fun k hk => by cases hk)
  go_loopw [4, 7] (fun v4 v7 wr => RelA w M n D v4 v7 wr) (fun _ _ wr => wr.rangeLeft M w.heap.size)
  case atStart => exact ⟨_, _, true, _, hrg0, rfl, rfl, fun _ => rfl, (fun h => by cases h), hb0⟩
  case round =>
    obtain ⟨left, cnt, first, s, hrg, rfl, rfl, hfst, hsnd, hbl⟩ := hrel
    go_wp2_with (at_next; refine wpList_next_ranges _ rfl _ rfl 9 law9 (plainElem Try.prog 9) Value.string Value.string keyInv valInv M w.heap.size n D left cnt rfl hrg ?_ ?_)
    · intro _ hl0
      have hff : first = false := by
        cases first
        · rfl
        · have := hl0 (lit ls[ls.length - 1]!.1)
          rw [hfst rfl, h0] at this
          cases this
      subst hff
      obtain ⟨hs1, hs2⟩ := hsnd rfl
      have hwT : wr.cell? ⟨T, 0, none⟩ = some (.pointer (some ⟨L, 0, none⟩)) := by rw [hbl.cell (p := ⟨T, 0, none⟩) hTl]; exact hT0
      have hwL : wr.cell? ⟨L, 0, none⟩ = some (.map (some M)) := by rw [hbl.cell (p := ⟨L, 0, none⟩) hLl]; exact hL0
      obtain ⟨x, hx⟩ : ∃ x, lastOf ls s ls.length = some x := by
        have := hh s hs1
        rw [hs2] at this
        exact Option.isSome_iff_exists.1 this.symm
      have hlk := hlook s hs1 wr.drew (hbl.block M hMlt)
      rw [hx] at hlk
      simp only [Option.getD_some] at hlk
      have HE : Hid (AnchAPost ls w (.returned (.tuple #[.string s, .slice (some ⟨wr.heap.size, 0, none⟩) 1 1, .bool true])) (wr.alloc (.cells #[.string x] 9)).drew) := ⟨s, _, x, rfl, hs1, hx, one_str wr x, (hbl.alloc hbl.size _).drew⟩
      clear hrg hfst hsnd hbl hlook hat hh hlen hl0
      go_wp2_with fail
      go_region
      all_goals
        go_wp2
        go_ret3
        exact HE.out
    · intro x c kl y yp w' cnt' hkey hlk hv hat' hrg1 hlt hg1 hs1 hen
      obtain ⟨x', ex, hkl, hxs⟩ := WideMaps.string_of_keyOf Try.underlying9 hkey
      cases ex
      have hxh : Maps.has D (lit x) = true := by
        have := has_true_of_atKey hat'
        rw [hkl] at this; exact this
      have hbl2 : Below w.heap.size w w' := hbl.grown hg1 hbl.size (fun j hj => by cases hj; exact Nat.le_refl _)
      have HR : Hid (∀ v4 v7, ((v4 = .string x ∧ v7 = .bool false) ∨ (first = false ∧ v4 = .string s ∧ v7 = .bool false)) → RelA w M n D v4 v7 w') := fun v4 v7 h => by
        rcases h with ⟨rfl, rfl⟩ | ⟨e, rfl, rfl⟩
        · exact ⟨_, cnt', false, x, hrg1, rfl, rfl, (fun h => by cases h), fun _ => ⟨hxs, hxh⟩, hbl2⟩
        · exact ⟨_, cnt', false, s, hrg1, rfl, rfl, (fun h => by cases h), fun _ => hsnd e, hbl2⟩
      have HMs : Hid (w'.rangeLeft M w.heap.size < wr.rangeLeft M w.heap.size) := by rw [hrg1.left_eq, hrg.left_eq]; exact hlt
      clear hrg hrg1 hfst hsnd hbl hbl2 hat' hv hlook hat hh hlen
      cases first
      · go_wp2
        · exact ⟨HR.out _ _ (.inl ⟨rfl, rfl⟩), HMs.out⟩
        · exact ⟨HR.out _ _ (.inr ⟨rfl, rfl, rfl⟩), HMs.out⟩
      · go_wp2
        go_roundw
        case rel => exact HR.out _ _ (.inl ⟨rfl, rfl⟩)
        case measure => exact HMs.out

end Go.Proofs.Qxb6609488a
