/-
  A []string argument, read as data, leads to a list of strings.
-/
import Derived.Test.Qxb6612939aStrs
import Derived.SliceStrings
namespace Go.Proofs.Qxb6612939a
open Go.RowKit Go.ChangeShapes Go.WideShapes

theorem cells9 : Try.prog.cellsOf 9 = 1 := by kernel_rfl

theorem SH.opened {H : Type} {enc : TypeId × Value → H} {w : World} {base : Nat} {spare : Nat → Bool} {held : Bool} {fuel : Nat} {a : Option Addr} {len cap : Nat} {x : DataW H × List MemPlace}
    (h : DataW.trod enc Try.prog w base spare held fuel 22 [.slice a len cap] = some x) : ∃ ss, SH w (.slice a len cap) ss := by
  rcases open_strings Try.underlying22 Try.underlying9 cells9 h with ⟨hcs, _⟩ | ⟨ad, l, c, ss, hcs, _, hl, hm, hz, _, hcell, _⟩
  · simp at hcs
    obtain ⟨rfl, rfl, rfl⟩ := hcs
    exact ⟨[], by simp, .inl ⟨rfl, none, 0, rfl⟩⟩
  · simp at hcs
    obtain ⟨rfl, rfl, rfl⟩ := hcs
    have hlen : len ≤ ss.length := by rw [hz]; split <;> omega
    unfold maxLen at hm
    by_cases h0 : len = 0
    · subst h0
      exact ⟨[], by simp, .inl ⟨rfl, _, _, rfl⟩⟩
    · have hp : 0 < ss.length := by omega
      obtain ⟨b, off, spot⟩ := ad
      have hspot : spot = none := by simpa [Addr.add] using World.cell?_spot (hcell 0 hp)
      subst hspot
      refine ⟨ss.take len, by simp; omega, .inr ⟨b, off, cap, ?_, fun i hi => ?_⟩⟩
      · simp; omega
      · simp at hi
        have := hcell i (by omega)
        rw [add_plain] at this
        rw [this, Lib.getD_takeS _ _ _ (by omega)]

end Go.Proofs.Qxb6612939a
