/-
  An argument []Nb, read as data, is a list of neighbours in memory.
-/
import Derived.Test.Qxb6612885aNb
import Derived.Deep.Slices
import Derived.ChangeArms
import Derived.Laws.Cover2
namespace Go.Proofs.Qxb6612885a
open Go.RowKit Go.ChangeShapes Go.WideShapes Go.Deep

section
variable {H : Type} {enc : TypeId × Value → H} {P : Program} {w : World} {base : Nat} {spare : Nat → Bool} {held : Bool}
theorem trod_float {t : TypeId} {fuel : Nat} {cs : List Value} {x : DataW H × List MemPlace} {k : FloatKind} (ht : P.underlying t = some (.float k)) (h : DataW.trod enc P w base spare held fuel t cs = some x) : ∃ b, cs = [.float k b] := by
  cases fuel with
  | zero => simp [DataW.trod] at h
  | succ n =>
    unfold DataW.trod at h
    rw [ht] at h
    split at h <;> simp_all
end

theorem cells4 : Try.prog.cellsOf 4 = 1 := by kernel_rfl
theorem cells24 : Try.prog.cellsOf 24 = 1 := by kernel_rfl
theorem struct28 : ∃ f0 f1 f2 f3 f4 f5 : Field, Try.prog.underlying 28 = some (.struct #[f0, f1, f2, f3, f4, f5]) ∧ (f0.offset = 0 ∧ f1.offset = 1 ∧ f2.offset = 2 ∧ f3.offset = 3 ∧ f4.offset = 4 ∧ f5.offset = 5) ∧ f0.type = 4 ∧ f1.type = 4 ∧ f2.type = 4 ∧ f3.type = 24 ∧ f4.type = 24 ∧ f5.type = 24 :=
  ⟨_, _, _, _, _, _, Try.underlying28, ⟨rfl, rfl, rfl, rfl, rfl, rfl⟩, rfl, rfl, rfl, rfl, rfl, rfl⟩

theorem NArg.opened {H : Type} {enc : TypeId × Value → H} {w : World} {base : Nat} {spare : Nat → Bool} {held : Bool} {fuel : Nat} {a : Option Addr} {len cap : Nat} {x : DataW H × List MemPlace}
    (h : DataW.trod enc Try.prog w base spare held fuel 25 [.slice a len cap] = some x) : ∃ ns, NArg w (.slice a len cap) ns := by
  rcases open_slice Try.underlying25 h with ⟨hcs, _⟩ | ⟨ad, l, c, m, n, D, Pl, hcs, _, hl, hm, hmm, _, hx⟩
  · simp at hcs
    obtain ⟨rfl, rfl, rfl⟩ := hcs
    exact ⟨[], .inl ⟨rfl, none, 0, rfl⟩⟩
  · simp at hcs
    obtain ⟨rfl, rfl, rfl⟩ := hcs
    have hlm : len ≤ m := by rw [hmm]; split <;> omega
    by_cases h0 : len = 0
    · subst h0
      exact ⟨[], .inl ⟨rfl, _, _, rfl⟩⟩
    · obtain ⟨f0, f1, f2, f3, f4, f5, hst, ⟨o0, o1, o2, o3, o4, o5⟩, t0, t1, t2, t3, t4, t5⟩ := struct28
      have each : ∀ i, i < len → ∃ y : N, w.cell? (ad.add (i * 6)) = some (.bool y.it) ∧ w.cell? (ad.add (i * 6 + 1)) = some (.bool y.un) ∧ w.cell? (ad.add (i * 6 + 2)) = some (.bool y.op) ∧ w.cell? (ad.add (i * 6 + 3)) = some (.float .f64 y.ua) ∧ w.cell? (ad.add (i * 6 + 4)) = some (.float .f64 y.ra) ∧ w.cell? (ad.add (i * 6 + 5)) = some (.float .f64 y.ld) := by
        intro i hi
        obtain ⟨cs', h1, h2⟩ := hx i (by omega)
        rw [cells28] at h1
        obtain ⟨_, hlen, hcell⟩ := World.cells?_some h1
        obtain ⟨xs, k, hk, _, _, hxl, hf⟩ := DataW.trod_struct hst h2
        match xs, hxl, cs', hlen with
        | [y0, y1, y2, y3, y4, y5], _, [v0, v1, v2, v3, v4, v5], _ =>
          have g0 := hf 0 f0 rfl
          have g1 := hf 1 f1 rfl
          have g2 := hf 2 f2 rfl
          have g3 := hf 3 f3 rfl
          have g4 := hf 4 f4 rfl
          have g5 := hf 5 f5 rfl
          simp [o0, o1, o2, o3, o4, o5, t0, t1, t2, t3, t4, t5, cells4, cells24] at g0 g1 g2 g3 g4 g5
          obtain ⟨b0, e0⟩ := DataW.trod_bool Try.underlying4 g0
          obtain ⟨b1, e1⟩ := DataW.trod_bool Try.underlying4 g1
          obtain ⟨b2, e2⟩ := DataW.trod_bool Try.underlying4 g2
          obtain ⟨b3, e3⟩ := trod_float Try.underlying24 g3
          obtain ⟨b4, e4⟩ := trod_float Try.underlying24 g4
          obtain ⟨b5, e5⟩ := trod_float Try.underlying24 g5
          simp at e0 e1 e2 e3 e4 e5
          have c0 := hcell 0 (by omega)
          have c1 := hcell 1 (by omega)
          have c2 := hcell 2 (by omega)
          have c3 := hcell 3 (by omega)
          have c4 := hcell 4 (by omega)
          have c5 := hcell 5 (by omega)
          rw [add_add] at c0 c1 c2 c3 c4 c5
          refine ⟨⟨b0, b1, b2, b3, b4, b5⟩, ?_, ?_, ?_, ?_, ?_, ?_⟩
          · simpa [e0.1] using c0
          · simpa [e1.1] using c1
          · simpa [e2.1] using c2
          · simpa [e3] using c3
          · simpa [e4] using c4
          · simpa [e5] using c5
      obtain ⟨f, hf⟩ : ∃ f : Nat → N, ∀ i, i < len → w.cell? (ad.add (i * 6)) = some (.bool (f i).it) ∧ w.cell? (ad.add (i * 6 + 1)) = some (.bool (f i).un) ∧ w.cell? (ad.add (i * 6 + 2)) = some (.bool (f i).op) ∧ w.cell? (ad.add (i * 6 + 3)) = some (.float .f64 (f i).ua) ∧ w.cell? (ad.add (i * 6 + 4)) = some (.float .f64 (f i).ra) ∧ w.cell? (ad.add (i * 6 + 5)) = some (.float .f64 (f i).ld) := choose_lt each
      obtain ⟨b, off, spot⟩ := ad
      have hc0 := (hf 0 (by omega)).1
      have hspot : spot = none := by simpa [Addr.add] using World.cell?_spot hc0
      subst hspot
      have hb : b < w.heap.size := by
        refine Nat.lt_of_not_le fun hle => ?_
        unfold World.cell? Addr.add at hc0
        simp [Array.getElem?_eq_none hle] at hc0
      refine ⟨(List.range len).map f, .inr ⟨b, off, cap, by simp, hb, fun i hi => ?_⟩⟩
      simp at hi
      have := hf i hi
      simp only [add_plain] at this
      rw [getElem!_pos _ i (by simpa using hi)]
      simpa [NAt, Nat.add_assoc] using this

end Go.Proofs.Qxb6612885a
