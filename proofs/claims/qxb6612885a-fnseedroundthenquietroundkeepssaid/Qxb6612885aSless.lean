/-
  The comparison of seedRound, and seedBefore.
-/
import Derived.Test.Qxb6612885aSd
import Derived.Deep.DeepCutAuto
import Derived.Deep.CutRange
import Derived.Deep.Cut
import Derived.Deep.RegionHeld3
namespace Go.Proofs.Qxb6612885a
open Go.Shelf Go.RowKit Go.Lib Go.Sort

def N.val (x : N) : Value := .agg #[.bool x.it, .bool x.un, .bool x.op, .float .f64 x.ua, .float .f64 x.ra, .float .f64 x.ld]

set_option maxHeartbeats 1000000 in
theorem before_walk (a b : N) (w : World) : Calls Try.prog 28 #[a.val, b.val] w fun e w' => e = .returned (.bool (sbef a b)) ∧ Keep [] w w' := by
  obtain ⟨it, un, op, ua, ra, ld⟩ := a
  obtain ⟨it2, un2, op2, ua2, ra2, ld2⟩ := b
  unfold N.val sbef
  simp only
  have hk := ((Keep.refl [] w).alloc (.cells #[.bool it, .bool un, .bool op, .float .f64 ua, .float .f64 ra, .float .f64 ld] 28)).alloc (.cells #[.bool it2, .bool un2, .bool op2, .float .f64 ua2, .float .f64 ra2, .float .f64 ld2] 28)
  have hg : (FloatKind.f64.format.order ua ua2 == some Ordering.gt) = Flt.gt ua ua2 := rfl
  have hr : (FloatKind.f64.format.order ra ra2 == some Ordering.gt) = Flt.gt ra ra2 := rfl
  have he : (FloatKind.f64.format.order ua ua2 != some Ordering.eq) = !Flt.eq ua ua2 := rfl
  generalize Flt.gt ua ua2 = g1 at *
  generalize Flt.gt ra ra2 = g2 at *
  generalize Flt.eq ua ua2 = e1 at *
  cases un
  · cases un2
    · go_enter Try.func28, Try.ntmps28
      go_wp2
      go_ret
      exact ⟨rfl, hk⟩
    · go_enter Try.func28, Try.ntmps28
      go_wp2
      go_ret
      exact ⟨rfl, hk⟩
  · cases un2
    · go_enter Try.func28, Try.ntmps28
      go_wp2
      go_ret
      exact ⟨rfl, hk⟩
    · cases e1
      · go_enter Try.func28, Try.ntmps28
        go_wp2
        go_ret
        exact ⟨rfl, hk⟩
      · go_enter Try.func28, Try.ntmps28
        go_wp2
        go_ret
        exact ⟨rfl, hk⟩

theorem Keep.drew {X : List Nat} {a w : World} (h : Keep X a w) : Keep X a w.drew := h.drewN 1

/-- nothing but new blocks and draws -/
def New (w W : World) : Prop := Keep [] w W ∧ ∃ m, W.drawn = w.drawn + m
theorem New.refl (w : World) : New w w := ⟨Keep.refl _ _, 0, rfl⟩
theorem New.drew {a w : World} (h : New a w) : New a w.drew := by
  obtain ⟨h1, m, h2⟩ := h
  exact ⟨h1.drew, m + 1, by show w.drawn + 1 = _; rw [h2]; omega⟩
theorem New.alloc {a w : World} (h : New a w) (o : Obj) : New a (w.alloc o) := ⟨h.1.alloc o, h.2⟩
theorem New.setCell {a w : World} (h : New a w) {p : Addr} (hp : a.heap.size ≤ p.block) (u : Value) : New a (w.setCell p u) := ⟨h.1.setCell (.inr hp) u, h.2⟩

theorem New.leaves {α : Type} [Inhabited α] {enc : α → Value} {w W : World} {blk : Nat} {d : Array α} (h : New w W) (hH : Holds enc w blk 0 d) : Leaves enc w blk 0 d W := by
  obtain ⟨hk, m, hm⟩ := h
  have e : W = grow (w.drewN m) (W.heap.extract w.heap.size W.heap.size) := by
    have hh : W.heap = w.heap ++ W.heap.extract w.heap.size W.heap.size := by
      refine Array.ext_getElem? fun i => ?_
      rw [Array.getElem?_append]
      split
      · rename_i hi
        exact hk.block i hi (by simp)
      · rename_i hi
        have := hk.size
        rw [Array.getElem?_extract]
        by_cases hiW : i < W.heap.size
        · rw [if_pos (by omega)]
          congr 1
          omega
        · rw [if_neg (by omega), Array.getElem?_eq_none (by omega)]
    have h1 := hk.os
    have h2 := hk.tape
    have h3 := hk.output
    obtain ⟨hp, tp, dr, os, out⟩ := W
    simp only at h1 h2 h3 hm hh
    subst h1 h2 h3 hm
    unfold grow
    show World.mk _ _ _ _ _ = World.mk _ _ _ _ _
    congr 1
  obtain ⟨n, os, he⟩ := (Leaves.start hH).drewN m
  rw [he] at e
  refine ⟨n, os ++ W.heap.extract w.heap.size W.heap.size, e.trans ?_⟩
  unfold sortWorld
  rw [grow_grow]

def SL (w : World) (b4 b9 B blk i j x y n len cap : Nat) (p q : N) (W : World) : Prop :=
  W.cell? ⟨b4, 0, none⟩ = some (.slice (some ⟨B, 0, none⟩) n n) ∧ W.cell? ⟨b9, 0, none⟩ = some (.slice (some ⟨blk, 0, none⟩) len cap) ∧ W.cell? ⟨blk, i, none⟩ = some (.int .i64 (x : Nat)) ∧ W.cell? ⟨blk, j, none⟩ = some (.int .i64 (y : Nat)) ∧
  W.cell? ⟨B, x * 6, none⟩ = some (.bool p.it) ∧ W.cell? ⟨B, x * 6 + 1, none⟩ = some (.bool p.un) ∧ W.cell? ⟨B, x * 6 + 2, none⟩ = some (.bool p.op) ∧ W.cell? ⟨B, x * 6 + 3, none⟩ = some (.float .f64 p.ua) ∧ W.cell? ⟨B, x * 6 + 4, none⟩ = some (.float .f64 p.ra) ∧ W.cell? ⟨B, x * 6 + 5, none⟩ = some (.float .f64 p.ld) ∧
  W.cell? ⟨B, y * 6, none⟩ = some (.bool q.it) ∧ W.cell? ⟨B, y * 6 + 1, none⟩ = some (.bool q.un) ∧ W.cell? ⟨B, y * 6 + 2, none⟩ = some (.bool q.op) ∧ W.cell? ⟨B, y * 6 + 3, none⟩ = some (.float .f64 q.ua) ∧ W.cell? ⟨B, y * 6 + 4, none⟩ = some (.float .f64 q.ra) ∧ W.cell? ⟨B, y * 6 + 5, none⟩ = some (.float .f64 q.ld) ∧ New w W

theorem sl_keep {w W : World} {b4 b9 B blk i j x y n len cap : Nat} {p q : N} (h4 : w.cell? ⟨b4, 0, none⟩ = some (.slice (some ⟨B, 0, none⟩) n n)) (h9 : w.cell? ⟨b9, 0, none⟩ = some (.slice (some ⟨blk, 0, none⟩) len cap)) (ci : w.cell? ⟨blk, i, none⟩ = some (.int .i64 x)) (cj : w.cell? ⟨blk, j, none⟩ = some (.int .i64 y)) (hp : NAt w B (x * 6) p) (hq : NAt w B (y * 6) q)
    (l4 : b4 < w.heap.size) (l9 : b9 < w.heap.size) (lB : B < w.heap.size) (lk : blk < w.heap.size) (h : New w W) : SL w b4 b9 B blk i j x y n len cap p q W := by
  obtain ⟨p0, p1, p2, p3, p4, p5⟩ := hp
  obtain ⟨q0, q1, q2, q3, q4, q5⟩ := hq
  have hk := h.1
  refine ⟨?_, ?_, ?_, ?_, ?_, ?_, ?_, ?_, ?_, ?_, ?_, ?_, ?_, ?_, ?_, ?_, h⟩
  · rw [hk.cell l4 (by simp)]; exact h4
  · rw [hk.cell l9 (by simp)]; exact h9
  · rw [hk.cell lk (by simp)]; exact ci
  · rw [hk.cell lk (by simp)]; exact cj
  all_goals (rw [hk.cell lB (by simp)]; assumption)

set_option maxHeartbeats 4000000 in
/-- seedRound$1 at two indices -/
theorem sless_at (w : World) (b4 b9 B blk n len cap i j x y : Nat) (p q : N) (h4 : w.cell? ⟨b4, 0, none⟩ = some (.slice (some ⟨B, 0, none⟩) n n)) (h9 : w.cell? ⟨b9, 0, none⟩ = some (.slice (some ⟨blk, 0, none⟩) len cap))
    (hi : i < len) (hj : j < len) (hx : x < n) (hy : y < n) (ci : w.cell? ⟨blk, i, none⟩ = some (.int .i64 x)) (cj : w.cell? ⟨blk, j, none⟩ = some (.int .i64 y)) (hp : NAt w B (x * 6) p) (hq : NAt w B (y * 6) q) (l4 : b4 < w.heap.size) (l9 : b9 < w.heap.size) (lB : B < w.heap.size) (lk : blk < w.heap.size) :
    Calls Try.prog 33 #[.int .i64 i, .int .i64 j, .pointer (some ⟨b4, 0, none⟩), .pointer (some ⟨b9, 0, none⟩)] w fun e w' => e = .returned (.bool (sbef p q)) ∧ New w w' := by
  have hkS := fun W => @sl_keep w W b4 b9 B blk i j x y n len cap p q h4 h9 ci cj hp hq l4 l9 lB lk
  have HK : Hid _ := hkS
  clear hkS h4 h9 ci cj hp hq
  unfold sbef
  obtain ⟨it, un, op, ua, ra, ld⟩ := p
  obtain ⟨it2, un2, op2, ua2, ra2, ld2⟩ := q
  simp only [SL] at HK ⊢
  have hg : (FloatKind.f64.format.order ua ua2 == some Ordering.gt) = Flt.gt ua ua2 := rfl
  have hr : (FloatKind.f64.format.order ra ra2 == some Ordering.gt) = Flt.gt ra ra2 := rfl
  have he : (FloatKind.f64.format.order ua ua2 != some Ordering.eq) = !Flt.eq ua ua2 := rfl
  generalize Flt.gt ua ua2 = g1 at *
  generalize Flt.gt ra ra2 = g2 at *
  generalize Flt.eq ua ua2 = e1 at *
  go_enter Try.func33, Try.ntmps33
  go_upto_region 1 with fail
  go_cut [7, 8] (fun v7 v8 wx => ∃ B7 B8 : Nat, v7 = .pointer (some ⟨B7, 0, none⟩) ∧ v8 = .pointer (some ⟨B8, 0, none⟩) ∧ New w wx ∧ wx.cell? ⟨B7, 1, none⟩ = some (.bool un) ∧ wx.cell? ⟨B7, 3, none⟩ = some (.float .f64 ua) ∧ wx.cell? ⟨B7, 4, none⟩ = some (.float .f64 ra) ∧ wx.cell? ⟨B8, 1, none⟩ = some (.bool un2) ∧ wx.cell? ⟨B8, 3, none⟩ = some (.float .f64 ua2) ∧ wx.cell? ⟨B8, 4, none⟩ = some (.float .f64 ra2))
  case first =>
    clear hg hr he
    go_region_held3 (fun W => W.cell? ⟨b4, 0, none⟩ = some (.slice (some ⟨B, 0, none⟩) n n) ∧ W.cell? ⟨b9, 0, none⟩ = some (.slice (some ⟨blk, 0, none⟩) len cap) ∧ W.cell? ⟨blk, i, none⟩ = some (.int .i64 (x : Nat)) ∧ W.cell? ⟨blk, j, none⟩ = some (.int .i64 (y : Nat)) ∧
        W.cell? ⟨B, x * 6, none⟩ = some (.bool it) ∧ W.cell? ⟨B, x * 6 + 1, none⟩ = some (.bool un) ∧ W.cell? ⟨B, x * 6 + 2, none⟩ = some (.bool op) ∧ W.cell? ⟨B, x * 6 + 3, none⟩ = some (.float .f64 ua) ∧ W.cell? ⟨B, x * 6 + 4, none⟩ = some (.float .f64 ra) ∧ W.cell? ⟨B, x * 6 + 5, none⟩ = some (.float .f64 ld) ∧
        W.cell? ⟨B, y * 6, none⟩ = some (.bool it2) ∧ W.cell? ⟨B, y * 6 + 1, none⟩ = some (.bool un2) ∧ W.cell? ⟨B, y * 6 + 2, none⟩ = some (.bool op2) ∧ W.cell? ⟨B, y * 6 + 3, none⟩ = some (.float .f64 ua2) ∧ W.cell? ⟨B, y * 6 + 4, none⟩ = some (.float .f64 ra2) ∧ W.cell? ⟨B, y * 6 + 5, none⟩ = some (.float .f64 ld2) ∧ New w W)
      ((refine HK.out _ ?_; (repeat (first | exact New.refl _ | apply New.drew | apply New.alloc | (refine New.setCell ?_ (by first | omega | (simp <;> omega)) _)))))
      (fail)
    all_goals
      go_wp2
      go_meet
      refine ⟨_, _, rfl, rfl, ?_, by go_simp, by go_simp, by go_simp, by go_simp, by go_simp, by go_simp⟩
      repeat (first | exact New.refl _ | apply New.drew | apply New.alloc | (refine New.setCell ?_ (by first | omega | (simp <;> omega)) _))
  case rest =>
    obtain ⟨B7, B8, rfl, rfl, hN, a1, a3, a4, b1, b3, b4'⟩ := hcut
    clear HK
    cases un
    · cases un2
      · go_wp2
        go_ret
        exact ⟨rfl, hN⟩
      · go_wp2
        go_ret
        exact ⟨rfl, hN⟩
    · cases un2
      · go_wp2
        go_ret
        exact ⟨rfl, hN⟩
      · cases e1
        · go_wp2
          go_ret
          exact ⟨rfl, hN⟩
        · go_wp2
          go_ret
          exact ⟨rfl, hN⟩

theorem slessI (m : Nat) (ns : List N) (hns : ns.length = m + 1) (w : World) (b4 b9 B blk len cap : Nat) (h4 : Box w b4 (.slice (some ⟨B, 0, none⟩) ns.length ns.length) 29) (h9 : Box w b9 (.slice (some ⟨blk, 0, none⟩) len cap) 47) (hN : NsAt w B ns) (hB : Tag w B 42) (hblk : Tag w blk 3) (d0 : Array (Fin (m + 1))) (hd0 : d0.size = len) (hH : Holds encF w blk 0 d0) :
    LessI m (slt ns) 33 #[.pointer (some ⟨b4, 0, none⟩), .pointer (some ⟨b9, 0, none⟩)] blk len w := by
  intro d w' hs hL i j hi hj
  have hk := hL.keep
  have n4 : b4 ∉ [blk] := by simpa using h4.tag.ne hblk (by decide)
  have n9 : b9 ∉ [blk] := by simpa using h9.tag.ne hblk (by decide)
  have nB : B ∉ [blk] := by simpa using hB.ne hblk (by decide)
  have h4' := h4.keep hk n4
  have h9' := h9.keep hk n9
  have hN' := hN.keep hk hB.lt nB
  have hH' := hL.holds hblk.lt hH (by omega)
  have hcell : ∀ i, i < len → w'.cell? ⟨blk, i, none⟩ = some (.int .i64 (d[i]!.val : Nat)) := fun i hi => by
    have := (hH' i (by omega)).1
    rw [Nat.zero_add] at this
    exact this
  have hxi : d[i]!.val < ns.length := by rw [hns]; exact d[i]!.isLt
  have hxj : d[j]!.val < ns.length := by rw [hns]; exact d[j]!.isLt
  refine (sless_at w' b4 b9 B blk ns.length len cap i j d[i]!.val d[j]!.val _ _ h4'.cell h9'.cell hi hj hxi hxj (hcell i hi) (hcell j hj) (hN' _ hxi).1 (hN' _ hxj).1 h4'.tag.lt h9'.tag.lt (hB.keep hk nB).lt (Nat.lt_of_lt_of_le hblk.lt hk.size)).mono ?_
  rintro e2 w2 ⟨rfl, hw2⟩
  exact ⟨rfl, hw2.leaves hH'⟩

end Go.Proofs.Qxb6612885a
