/-
  The arguments, read as data, lead to lists and a map.
-/
import Derived.Test.Qxb6609488aAnch
import Derived.SliceStrings
import Derived.Deep.SlicePairs
import Derived.ChangeArms
import Derived.Laws.Cover2
import Derived.Maps.OwnSet
namespace Go.Proofs.Qxb6609488a
open Go.RowKit Go.ChangeShapes Go.WideShapes Go.Deep Go.Maps Go.WideElems

theorem cells9 : Try.prog.cellsOf 9 = 1 := by kernel_rfl
theorem cells24 : Try.prog.cellsOf 24 = 1 := by kernel_rfl
theorem cells50 : Try.prog.cellsOf 50 = 2 := by kernel_rfl
theorem cells44 : Try.prog.cellsOf 44 = 3 := by kernel_rfl
theorem struct50 : ∃ f0 f1 : Field, Try.prog.underlying 50 = some (.struct #[f0, f1]) ∧ (f0.offset = 0 ∧ f1.offset = 1) ∧ f0.type = 9 ∧ f1.type = 9 := ⟨_, _, Try.underlying50, ⟨rfl, rfl⟩, rfl, rfl⟩
theorem struct44 : ∃ f0 f1 f2 : Field, Try.prog.underlying 44 = some (.struct #[f0, f1, f2]) ∧ (f0.offset = 0 ∧ f1.offset = 1 ∧ f2.offset = 2) ∧ f0.type = 9 ∧ f1.type = 9 ∧ f2.type = 24 := ⟨_, _, _, Try.underlying44, ⟨rfl, rfl, rfl⟩, rfl, rfl, rfl⟩

section
variable {H : Type} {enc : TypeId × Value → H} {w : World} {base : Nat} {spare : Nat → Bool} {held : Bool} {fuel : Nat} {v : Value} {x : DataW H × List MemPlace}

theorem SH.opened (h : DataW.trod enc Try.prog w base spare held fuel 24 [v] = some x) : ∃ ss, SH w v ss ∧ ∀ i, i < ss.length → (ss.getD i ByteArray.empty).size ≤ maxLen := by
  rcases open_strings Try.underlying24 Try.underlying9 cells9 h with ⟨hcs, _⟩ | ⟨ad, l, c, ss, hcs, _, hl, hm, hz, _, hcell, hsz⟩
  · simp at hcs
    subst hcs
    exact ⟨[], ⟨by simp, .inl ⟨rfl, none, 0, rfl⟩⟩, fun i hi => by simp at hi⟩
  · simp at hcs
    subst hcs
    have hlen : l ≤ ss.length := by rw [hz]; split <;> omega
    unfold maxLen at hm
    by_cases h0 : l = 0
    · subst h0
      exact ⟨[], ⟨by simp, .inl ⟨rfl, _, _, rfl⟩⟩, fun i hi => by simp at hi⟩
    · have hp : 0 < ss.length := by omega
      obtain ⟨b, off, spot⟩ := ad
      have hspot : spot = none := by simpa [Addr.add] using World.cell?_spot (hcell 0 hp)
      subst hspot
      refine ⟨ss.take l, ⟨by simp; omega, .inr ⟨b, off, c, ?_, fun i hi => ?_⟩⟩, fun i hi => ?_⟩
      · simp; omega
      · simp at hi
        have := hcell i (by omega)
        rw [add_plain] at this
        rw [this, Lib.getD_takeS _ _ _ (by omega)]
      · simp at hi
        rw [Lib.getD_takeS _ _ _ (by omega)]
        exact hsz _ (mem_getD (by omega))

theorem KA.opened (h : DataW.trod enc Try.prog w base spare held fuel 22 [v] = some x) : ∃ ls, KA w v ls ∧ Fits ls := by
  obtain ⟨f0, f1, hst, ⟨o0, o1⟩, t0, t1⟩ := struct50
  rcases open_slice_pairs Try.underlying22 hst cells50 o0 o1 (by rw [t0]; exact cells9) (by rw [t1]; exact cells9) h with ⟨hcs, _⟩ | ⟨ad, len, cap, m, n, V0, V1, D0, D1, P0, P1, hcs, _, hl, hm, hmm, _, hx⟩
  · simp at hcs
    subst hcs
    exact ⟨[], ⟨by simp, none, 0, rfl, fun i hi => by simp at hi⟩, fun i hi => by simp at hi⟩
  · simp at hcs
    subst hcs
    have hlm : len ≤ m := by rw [hmm]; split <;> omega
    unfold maxLen at hm
    have each : ∀ i, i < len → ∃ y : ByteArray × ByteArray, w.cell? (ad.add (i * 2)) = some (.string y.1) ∧ w.cell? (ad.add (i * 2 + 1)) = some (.string y.2) ∧ y.1.size ≤ maxLen ∧ y.2.size ≤ maxLen := by
      intro i hi
      obtain ⟨c0, c1, g0, g1⟩ := hx i (by omega)
      rw [t0] at g0
      rw [t1] at g1
      obtain ⟨s0, e0, _, z0⟩ := DataW.trod_string Try.underlying9 g0
      obtain ⟨s1, e1, _, z1⟩ := DataW.trod_string Try.underlying9 g1
      simp at e0 e1
      exact ⟨(s0, s1), by rw [c0, e0], by rw [c1, e1], z0, z1⟩
    obtain ⟨f, hf⟩ : ∃ f : Nat → ByteArray × ByteArray, ∀ i, i < len → w.cell? (ad.add (i * 2)) = some (.string (f i).1) ∧ w.cell? (ad.add (i * 2 + 1)) = some (.string (f i).2) ∧ (f i).1.size ≤ maxLen ∧ (f i).2.size ≤ maxLen := choose_lt each
    have hget : ∀ i, i < len → ((List.range len).map f)[i]! = f i := fun i hi => by rw [getElem!_pos _ i (by simpa using hi)]; simp
    refine ⟨(List.range len).map f, ⟨by simp; omega, some ad, cap, by simp, fun i hi => ?_⟩, fun i hi => ?_⟩
    · simp at hi
      obtain ⟨c0, c1, _⟩ := hf i hi
      obtain ⟨b, off, spot⟩ := ad
      have hspot : spot = none := by simpa [Addr.add] using World.cell?_spot (hf 0 (by omega)).1
      subst hspot
      rw [add_plain] at c0 c1
      rw [hget i hi]
      exact ⟨b, off, rfl, c0, c1⟩
    · simp at hi
      rw [hget i hi]
      exact (hf i hi).2.2

theorem RA.opened (h : DataW.trod enc Try.prog w base spare held fuel 23 [v] = some x) : ∃ rs, RA w v rs := by
  obtain ⟨f0, f1, f2, hst, ⟨o0, o1, o2⟩, t0, t1, t2⟩ := struct44
  rcases open_slice Try.underlying23 h with ⟨hcs, _⟩ | ⟨ad, len, cap, m, n, D, Pl, hcs, _, hl, hm, hmm, _, hx⟩
  · simp at hcs
    subst hcs
    exact ⟨[], by simp, none, 0, rfl, fun i hi => by simp at hi⟩
  · simp at hcs
    subst hcs
    have hlm : len ≤ m := by rw [hmm]; split <;> omega
    unfold maxLen at hm
    have each : ∀ i, i < len → ∃ y : Rq × Value, w.cell? (ad.add (i * 3)) = some (.string y.1.key) ∧ w.cell? (ad.add (i * 3 + 1)) = some (.string y.1.op) ∧ w.cell? (ad.add (i * 3 + 2)) = some y.2 ∧ SH w y.2 y.1.vals := by
      intro i hi
      obtain ⟨cs', h1, h2⟩ := hx i (by omega)
      rw [cells44] at h1
      obtain ⟨_, hlen, hcell⟩ := World.cells?_some h1
      obtain ⟨xs, k, hk, _, _, hxl, hf⟩ := DataW.trod_struct hst h2
      match xs, hxl, cs', hlen with
      | [y0, y1, y2], _, [v0, v1, v2], _ =>
        have g0 := hf 0 f0 rfl
        have g1 := hf 1 f1 rfl
        have g2 := hf 2 f2 rfl
        simp [o0, o1, o2, t0, t1, t2, cells9, cells24] at g0 g1 g2
        obtain ⟨s0, e0, _⟩ := DataW.trod_string Try.underlying9 g0
        obtain ⟨s1, e1, _⟩ := DataW.trod_string Try.underlying9 g1
        obtain ⟨ss, hS, _⟩ := SH.opened g2
        simp at e0 e1
        have c0 := hcell 0 (by omega)
        have c1 := hcell 1 (by omega)
        have c2 := hcell 2 (by omega)
        rw [add_add] at c0 c1 c2
        refine ⟨(⟨s0, s1, ss⟩, v2), ?_, ?_, ?_, hS⟩
        · simpa [e0] using c0
        · simpa [e1] using c1
        · simpa using c2
    obtain ⟨f, hf⟩ : ∃ f : Nat → Rq × Value, ∀ i, i < len → w.cell? (ad.add (i * 3)) = some (.string (f i).1.key) ∧ w.cell? (ad.add (i * 3 + 1)) = some (.string (f i).1.op) ∧ w.cell? (ad.add (i * 3 + 2)) = some (f i).2 ∧ SH w (f i).2 (f i).1.vals := choose_lt each
    have hget : ∀ i, i < len → ((List.range len).map fun j => (f j).1)[i]! = (f i).1 := fun i hi => by rw [getElem!_pos _ i (by simpa using hi)]; simp
    refine ⟨(List.range len).map fun j => (f j).1, by simp; omega, some ad, cap, by simp, fun i hi => ?_⟩
    simp at hi
    obtain ⟨c0, c1, c2, c3⟩ := hf i hi
    obtain ⟨b, off, spot⟩ := ad
    have hspot : spot = none := by simpa [Addr.add] using World.cell?_spot (hf 0 (by omega)).1
    subst hspot
    rw [add_plain] at c0 c1 c2
    rw [hget i hi]
    exact ⟨b, off, _, rfl, c0, c1, c2, c3⟩

open Classical in
theorem MapArg.opened (h : DataW.trod enc Try.prog w base spare held fuel 25 [v] = some x) : ∃ g sz, MapArg w v g ∧ ∀ q ty, (Builtin.len_ #[25] ty #[v]).run Try.prog (w.drewN q) = .ok (.int .i64 sz) (w.drewN q) := by
  rcases WideElems.open_map Try.underlying25 h with ⟨hcs, _⟩ | ⟨bm, es, clock, m, rfl, hcs, hb, _, F, _⟩
  · simp at hcs
    subst hcs
    exact ⟨_, 0, .inl ⟨rfl, rfl⟩, fun q ty => Maps.len_nil Try.underlying25 ty⟩
  · simp at hcs
    subst hcs
    have F1 : Fit Try.prog 9 (plainElem (H := Unit) Try.prog 9) es clock := ⟨F.size, F.stamped, fun x hx => by
      obtain ⟨y, hy⟩ := F.reads x hx
      obtain ⟨z, hz, _⟩ := rd_val hy
      obtain ⟨s, e, _, hs⟩ := WideElems.elemAt_string Try.underlying9 hz
      refine ⟨(y.1, .lit (.string s.data.toList)), ?_⟩
      have := rd_mk (P := Try.prog) (k := 9) (R := plainElem (H := Unit) Try.prog 9) (born := x.born) (rd_key hy) (plainElem_string Try.underlying9 hs)
      rw [← e] at this
      exact this⟩
    have hown : w.ownsMap Try.prog 9 (plainElem (H := Unit) Try.prog 9) bm es.size _ := ⟨es, clock, hb, F1, Nat.le_refl _, rfl⟩
    generalize hD : DataW.map ((es.toList.map (rg Try.prog 9 (plainElem (H := Unit) Try.prog 9))).foldr DataW.insert []) = D at hown
    refine ⟨fun k => if h : ∃ c : ByteArray, ∀ zd, D.atKey (lit k) zd = .lit (.string c.data.toList) then some h.choose else none, Maps.size D, .inr ⟨bm, es.size, rfl, D, hown, fun k hk zd => ?_⟩, fun q ty => ?_⟩
    · rcases fit_look true law9 Try.underlying25 (zero9 w) hb F1 (key9 hk) with ⟨_, _, ha⟩ | ⟨e0, y, _, _, _, hy, ha, _⟩
      · rw [hD] at ha
        have hno : ¬ ∃ c : ByteArray, ∀ zd, D.atKey (lit k) zd = .lit (.string c.data.toList) := fun ⟨c, hc⟩ => by have := (hc .nil).symm.trans (ha .nil); cases this
        simp only [dif_neg hno]
        exact ha zd
      · rw [hD] at ha
        obtain ⟨c, hv, he, _⟩ := plainElem_string_inv Try.underlying9 hy
        have hex : ∃ c : ByteArray, ∀ zd, D.atKey (lit k) zd = .lit (.string c.data.toList) := ⟨c, fun zd => by rw [ha zd, he]⟩
        simp only [dif_pos hex]
        exact hex.choose_spec zd
    · exact World.ownsMap.len (w := w.drewN q) hown Try.underlying25 ty
end
end Go.Proofs.Qxb6609488a
