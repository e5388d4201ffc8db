/-
  ZZWithout; zzSamePlacement; zzCat; the byte count of three slices.
-/
import Derived.Test.Qxb6612939aWithout
namespace Go.Proofs.Qxb6612939a
open Go.RowKit

/-- The three boxes of ZZWithout. -/
theorem three_below (w : World) (o1 o2 o3 : Obj) : Below w.heap.size w (((w.alloc o1).alloc o2).alloc o3) :=
  (((Below.refl _ w).alloc (Nat.le_refl _) o1).alloc (by simp) o2).alloc (by simp <;> omega) o3

set_option maxHeartbeats 1000000 in
/-- ZZWithout -/
theorem zzWithout (l : ByteArray) (v : Value) (ss : List ByteArray) (vr : Value) (rs : List ByteArray) (w : World) (h : SH w v ss) (hl : ss.length ≤ 131072) (hr : SH w vr rs) :
    Calls Try.prog 12 #[.agg #[.string l, v], vr] w fun e w' => ∃ v', e = .returned (.agg #[.string (woL l ss rs), v']) ∧ SH w' v' (woR ss rs) ∧ Below w.heap.size w w' := by
  obtain ⟨a, c, rfl⟩ := h.shape
  obtain ⟨ar, cr, rfl⟩ := hr.shape
  have hW := three_below w (.cells #[.string l, .slice a ss.length c] 29) (.cells #[.slice ar rs.length cr] 22) (.cells #[.string { data := #[] }, .slice none 0 0] 29)
  have hc := without l (.slice a ss.length c) ss ⟨w.heap.size + 1, 0, none⟩ (.slice ar rs.length cr) rs _ (h.below hW) hl (by go_simp) (hr.below hW)
  have hz : (((w.alloc (.cells #[.string l, .slice a ss.length c] 29)).alloc (.cells #[.slice ar rs.length cr] 22)).alloc (.cells #[.string { data := #[] }, .slice none 0 0] 29)).heap.size = w.heap.size + 3 := by simp
  generalize hWd : (((w.alloc (.cells #[.string l, .slice a ss.length c] 29)).alloc (.cells #[.slice ar rs.length cr] 22)).alloc (.cells #[.string { data := #[] }, .slice none 0 0] 29)) = W at *
  have r0 : W.cell? ⟨w.heap.size + 1 + 1, 0, none⟩ = some (.string { data := #[] }) := by rw [← hWd]; clear hWd hW hc hz; go_simp
  have r1 : W.cell? ⟨w.heap.size + 1 + 1, 1, none⟩ = some (.slice none 0 0) := by rw [← hWd]; clear hWd hW hc hz; go_simp
  have f0 : W.frozen? ⟨w.heap.size + 1 + 1, 0, none⟩ = false := by rw [← hWd]; clear hWd hW hc hz; go_simp
  have f1 : W.frozen? ⟨w.heap.size + 1 + 1, 1, none⟩ = false := by rw [← hWd]; clear hWd hW hc hz; go_simp
  subst hWd
  have HR : Hid (SH w (Value.slice ar rs.length cr) rs) := hr
  clear hr
  go_enter Try.func12, Try.ntmps12
  go_wp2_with fail
  refine hc.mono ?_
  rintro e w1 ⟨v', rfl, hsh, hb, hdis⟩
  obtain ⟨a2, c2, rfl⟩ := hsh.shape
  have r0' : w1.cell? ⟨w.heap.size + 1 + 1, 0, none⟩ = some (.string { data := #[] }) := by rw [hb.cell (by show w.heap.size + 1 + 1 < _; omega)]; exact r0
  have r1' : w1.cell? ⟨w.heap.size + 1 + 1, 1, none⟩ = some (.slice none 0 0) := by rw [hb.cell (by show w.heap.size + 1 + 1 < _; omega)]; exact r1
  have f0' : w1.frozen? ⟨w.heap.size + 1 + 1, 0, none⟩ = false := by rw [hb.frozen (by show w.heap.size + 1 + 1 < _; omega)]; exact f0
  have f1' : w1.frozen? ⟨w.heap.size + 1 + 1, 1, none⟩ = false := by rw [hb.frozen (by show w.heap.size + 1 + 1 < _; omega)]; exact f1
  have hb' : Below w.heap.size w w1 := hW.trans (hb.mono (by omega))
  clear r0 r1 f0 f1 hc hb
  go_wp2
  have hb2 := (hb'.setCell (p := ⟨w.heap.size + 1 + 1, 0, none⟩) (by show w.heap.size ≤ w.heap.size + 1 + 1; omega) (.string (woL l ss rs))).setCell (p := ⟨w.heap.size + 1 + 1, 1, none⟩) (by show w.heap.size ≤ w.heap.size + 1 + 1; omega) (.slice a2 (woR ss rs).length c2)
  refine bodyPost_ret (v := .agg #[.string (woL l ss rs), .slice a2 (woR ss rs).length c2]) (by simp [results, Try.results12, go_sem, r0', r1']) rfl ⟨.slice a2 (woR ss rs).length c2, rfl, ?_, hb2⟩
  rcases hdis with ⟨e1, e2⟩ | hd
  · rw [e1]
    conv => rhs; rw [e2]
    exact h.below (by rw [e1] at hb2; exact hb2)
  · have hn : ∀ ad : Addr, a2 = some ad → ad.block ≠ w.heap.size + 1 + 1 := fun ad e => by have := hd ad _ _ (by rw [e]); rw [hz] at this; omega
    exact (hsh.setCell _ _ hn).setCell _ _ hn

set_option maxHeartbeats 1000000 in
/-- zzSamePlacement -/
theorem samePlacement (l l' : ByteArray) (v v' : Value) (ss ss' : List ByteArray) (w : World) (h : SH w v ss) (h' : SH w v' ss') :
    Calls Try.prog 14 #[.agg #[.string l, v], .agg #[.string l', v']] w fun e w' => e = .returned (.bool (l.toList == l'.toList && decide (ss = ss'))) ∧ Below w.heap.size w w' := by
  obtain ⟨a, c, rfl⟩ := h.shape
  obtain ⟨a', c', rfl⟩ := h'.shape
  have hW : Below w.heap.size w ((w.alloc (.cells #[.string l, .slice a ss.length c] 29)).alloc (.cells #[.string l', .slice a' ss'.length c'] 29)) := ((Below.refl _ w).alloc (Nat.le_refl _) _).alloc (by simp) _
  have hE := eqStrs _ _ ss ss' _ (h.below hW) (h'.below hW)
  cases hl : (l.toList == l'.toList) with
  | false =>
    go_enter Try.func14, Try.ntmps14
    go_wp2
    go_ret
    exact ⟨rfl, hW⟩
  | true =>
    go_enter Try.func14, Try.ntmps14
    go_wp2_with (go_at_call 15; refine hE.mono ?_; rintro e w' ⟨rfl, q, hw⟩; subst w')
    go_ret
    exact ⟨ret_bool (by simp), hW.trans ⟨rfl, rfl, rfl, Nat.le_refl _, fun _ _ => rfl⟩⟩

end Go.Proofs.Qxb6612939a
