/-
  The comparison of downloadRound, and sort.SliceStable by it.
-/
import Derived.Test.Qxb6612885aKeepsD
import Derived.Test.Qxb6612885aIdx
import Derived.Test.Qxb6612885aUint
namespace Go.Proofs.Qxb6612885a
open Go.Shelf Go.RowKit Go.Lib Go.Sort

set_option maxHeartbeats 1000000 in
/-- downloadRound$1 at two indices -/
theorem dless_at (w : World) (b4 b9 B blk n len cap i j x y : Nat) (p q : N) (h4 : w.cell? ⟨b4, 0, none⟩ = some (.slice (some ⟨B, 0, none⟩) n n)) (h9 : w.cell? ⟨b9, 0, none⟩ = some (.slice (some ⟨blk, 0, none⟩) len cap))
    (hi : i < len) (hj : j < len) (hx : x < n) (hy : y < n) (ci : w.cell? ⟨blk, i, none⟩ = some (.int .i64 x)) (cj : w.cell? ⟨blk, j, none⟩ = some (.int .i64 y)) (hp : NAt w B (x * 6) p) (hq : NAt w B (y * 6) q) :
    Calls Try.prog 31 #[.int .i64 i, .int .i64 j, .pointer (some ⟨b4, 0, none⟩), .pointer (some ⟨b9, 0, none⟩)] w fun e w' => e = .returned (.bool (Flt.gt p.ra q.ra)) ∧ ∃ k, w' = w.drewN k := by
  obtain ⟨_, _, _, _, c4, _⟩ := hp
  obtain ⟨_, _, _, _, d4, _⟩ := hq
  have hg : (FloatKind.f64.format.order p.ra q.ra == some Ordering.gt) = Flt.gt p.ra q.ra := rfl
  generalize Flt.gt p.ra q.ra = r at *
  generalize p.ra = pr at *
  generalize q.ra = qr at *
  go_enter Try.func31, Try.ntmps31
  go_wp2_with fail
  go_quiet (fail)
  go_wp2
  go_ret
  exact ⟨rfl, nq, rfl⟩

theorem NsAt.keep {X : List Nat} {w w' : World} {B : Nat} {ns : List N} (h : NsAt w B ns) (hk : Keep X w w') (hB : B < w.heap.size) (hx : B ∉ X) : NsAt w' B ns := fun i hi =>
  ⟨(h i hi).1.of_cells fun c _ => hk.cell hB hx, fun c hc => by rw [hk.frozen hB hx]; exact (h i hi).2 c hc⟩

/-- the order of a downloading round -/
def dlt (ns : List N) (x y : Nat) : Bool := Flt.gt ns[x]!.ra ns[y]!.ra

theorem dlessI (m : Nat) (ns : List N) (hns : ns.length = m + 1) (w : World) (b4 b9 B blk len cap : Nat) (h4 : Box w b4 (.slice (some ⟨B, 0, none⟩) ns.length ns.length) 29) (h9 : Box w b9 (.slice (some ⟨blk, 0, none⟩) len cap) 47) (hN : NsAt w B ns) (hB : Tag w B 42) (hblk : Tag w blk 3) (d0 : Array (Fin (m + 1))) (hd0 : d0.size = len) (hH : Holds encF w blk 0 d0) :
    LessI m (dlt ns) 31 #[.pointer (some ⟨b4, 0, none⟩), .pointer (some ⟨b9, 0, none⟩)] blk len w := by
  intro d w' hs hL i j hi hj
  have hk := hL.keep
  have n4 : b4 ∉ [blk] := by simpa using h4.tag.ne hblk (by decide)
  have n9 : b9 ∉ [blk] := by simpa using h9.tag.ne hblk (by decide)
  have nB : B ∉ [blk] := by simpa using hB.ne hblk (by decide)
  have h4' := (h4.keep hk n4).cell
  have h9' := (h9.keep hk n9).cell
  have hN' := hN.keep hk hB.lt nB
  have hH' := hL.holds hblk.lt hH (by omega)
  have hcell : ∀ i, i < len → w'.cell? ⟨blk, i, none⟩ = some (.int .i64 (d[i]!.val : Nat)) := fun i hi => by
    have := (hH' i (by omega)).1
    rw [Nat.zero_add] at this
    exact this
  have hxi : d[i]!.val < ns.length := by rw [hns]; exact d[i]!.isLt
  have hxj : d[j]!.val < ns.length := by rw [hns]; exact d[j]!.isLt
  refine (dless_at w' b4 b9 B blk ns.length len cap i j d[i]!.val d[j]!.val _ _ h4' h9' hi hj hxi hxj (hcell i hi) (hcell j hj) (hN' _ hxi).1 (hN' _ hxj).1).mono ?_
  rintro e2 w2 ⟨rfl, k, rfl⟩
  exact ⟨rfl, (Leaves.start hH').drewN k⟩

end Go.Proofs.Qxb6612885a
