/-
  The walks of sort.swapRange_func and sort.rotate_func.
-/
import Derived.Test.Qxb6612885aLay
import Derived.Test.Qxb6612885aStable
import Derived.WalkKit
namespace Go.Proofs.Qxb6612885a
open Go.Shelf Go.RowKit Go.Lib Go.Sort
variable {α : Type} [Inhabited α]

/-- A store of two exchanged places in a world of the sort. -/
theorem sortWorld_swap (enc : α → Value) (w : World) (blk off n : Nat) (dk : Array α) (os : Array Obj) (hblk : blk < w.heap.size) (i j : Nat) (hi : i < dk.size) (hj : j < dk.size) :
    ((sortWorld enc w blk off n dk os).setCell ⟨blk, off + i, none⟩ (enc dk[j]!)).setCell ⟨blk, off + j, none⟩ (enc dk[i]!) = sortWorld enc w blk off n (swp dk i j) os := by
  unfold sortWorld
  rw [← putRow_grow enc (Sort.ahead w n) os blk off dk hblk, putRow_swp enc _ blk off dk i j hi hj, putRow_grow enc (Sort.ahead w n) os blk off _ hblk]

/-- A cell of the world outside the row. -/
theorem sortWorld_cell (enc : α → Value) (w : World) (blk off n : Nat) (dk : Array α) (os : Array Obj) (b k : Nat) (hb : b < w.heap.size) (hne : b ≠ blk) :
    (sortWorld enc w blk off n dk os).cell? ⟨b, k, none⟩ = w.cell? ⟨b, k, none⟩ := by
  unfold sortWorld
  rw [cell?_grow _ _ _ (by rw [size_putRow]; exact hb), cell?_putRow_other enc _ blk off _ _ (Or.inl hne)]
  rfl

/-- The box of the parameter 'data'. -/
def boxed (W : World) (F S : Value) : World := W.alloc (.cells #[F, S] 74)

theorem boxed_lt (W : World) (F S : Value) : W.heap.size < (boxed W F S).heap.size := by simp [boxed]
theorem boxed_cell0 (W : World) (F S : Value) : (boxed W F S).cell? ⟨W.heap.size, 0, none⟩ = some F := by
  unfold boxed; rw [World.cell?_alloc_at #[F, S] 74 _ 0 rfl]; rfl
theorem boxed_cell1 (W : World) (F S : Value) : (boxed W F S).cell? ⟨W.heap.size, 1, none⟩ = some S := by
  unfold boxed; rw [World.cell?_alloc_at #[F, S] 74 _ 1 rfl]; rfl
theorem boxed_grow (W : World) (F S : Value) : boxed W F S = grow W #[.cells #[F, S] 74] := by unfold boxed; rw [alloc_eq_grow]
theorem boxed_holds {enc : α → Value} {W : World} {blk off : Nat} {d : Array α} (F S : Value) (hblk : blk < W.heap.size) (h : Holds enc W blk off d) : Holds enc (boxed W F S) blk off d := by
  rw [boxed_grow]; exact holds_grow enc W _ blk off d hblk h
theorem boxed_sort (enc : α → Value) (W : World) (F S : Value) (blk off n : Nat) (dk : Array α) (os : Array Obj) (hblk : blk < W.heap.size) :
    sortWorld enc (boxed W F S) blk off n dk os = sortWorld enc W blk off n dk (#[.cells #[F, S] 74] ++ os) := by
  rw [boxed_grow]; unfold sortWorld; rw [ahead_grow, putRow_grow enc (Sort.ahead W n) _ blk off _ hblk, grow_grow]

/-- What each function of the family says of the world that it leaves. -/
def Leaves (enc : α → Value) (W : World) (blk off : Nat) (d : Array α) (w' : World) : Prop := ∃ n os, w' = sortWorld enc W blk off n d os

theorem Leaves.start {enc : α → Value} {W : World} {blk off : Nat} {d : Array α} (h : Holds enc W blk off d) : Leaves enc W blk off d W := ⟨0, #[], (sortWorld_start enc W blk off d h).symm⟩
theorem Leaves.trans {enc : α → Value} {W W1 W2 : World} {blk off : Nat} {d1 d2 : Array α} (hblk : blk < W.heap.size) (h1 : Leaves enc W blk off d1 W1) (h2 : Leaves enc W1 blk off d2 W2) (hs : d2.size = d1.size) : Leaves enc W blk off d2 W2 := by
  obtain ⟨n, os, rfl⟩ := h1
  obtain ⟨m, os', rfl⟩ := h2
  exact ⟨_, _, sortWorld_on enc W blk off n m d1 d2 os os' hblk hs⟩
theorem Leaves.unbox {enc : α → Value} {W w' : World} {blk off : Nat} {d : Array α} {F S : Value} (hblk : blk < W.heap.size) (h : Leaves enc (boxed W F S) blk off d w') : Leaves enc W blk off d w' := by
  obtain ⟨n, os, rfl⟩ := h
  exact ⟨n, _, boxed_sort enc W F S blk off n d os hblk⟩
theorem Leaves.cell {enc : α → Value} {W w' : World} {blk off : Nat} {d : Array α} (h : Leaves enc W blk off d w') (b k : Nat) (hb : b < W.heap.size) (hne : b ≠ blk) : w'.cell? ⟨b, k, none⟩ = W.cell? ⟨b, k, none⟩ := by
  obtain ⟨n, os, rfl⟩ := h
  exact sortWorld_cell enc W blk off n d os b k hb hne
theorem Leaves.holds {enc : α → Value} {W w' : World} {blk off : Nat} {d d0 : Array α} (hblk : blk < W.heap.size) (h0 : Holds enc W blk off d0) (hs : d.size = d0.size) (h : Leaves enc W blk off d w') : Holds enc w' blk off d := by
  obtain ⟨n, os, rfl⟩ := h
  exact holds_sortWorld enc W blk off n d0 d os hblk h0 hs
theorem Leaves.lt {enc : α → Value} {W w' : World} {blk off : Nat} {d : Array α} (hblk : blk < W.heap.size) (h : Leaves enc W blk off d w') : blk < w'.heap.size := by
  obtain ⟨n, os, rfl⟩ := h
  exact lt_sortWorld enc W blk off n d os hblk
theorem Leaves.less {P : Program} {g : Nat} {lb : Array Value} {lt : α → α → Bool} {enc : α → Value} {W w' : World} {blk off : Nat} {d : Array α} {size : Nat} (hblk : blk < W.heap.size) (hl : LessReads P g lb enc lt blk off size W) (hs : d.size = size) (h : Leaves enc W blk off d w') : LessReads P g lb enc lt blk off size w' := by
  obtain ⟨n, os, rfl⟩ := h
  exact hl.on hblk n d os hs
theorem Leaves.drewN {enc : α → Value} {W w' : World} {blk off : Nat} {d : Array α} (h : Leaves enc W blk off d w') (q : Nat) : Leaves enc W blk off d (w'.drewN q) := by
  obtain ⟨n, os, rfl⟩ := h
  exact ⟨n + q, os, by unfold sortWorld; rw [← putRow_drewN enc W n q blk off d]; rfl⟩
theorem Leaves.swap {enc : α → Value} {W w' : World} {blk off : Nat} {d : Array α} (hblk : blk < W.heap.size) (h : Leaves enc W blk off d w') (i j : Nat) (hi : i < d.size) (hj : j < d.size) :
    Leaves enc W blk off (swp d i j) ((w'.setCell ⟨blk, off + i, none⟩ (enc d[j]!)).setCell ⟨blk, off + j, none⟩ (enc d[i]!)) := by
  obtain ⟨n, os, rfl⟩ := h
  exact ⟨n, os, sortWorld_swap enc W blk off n d os hblk i j hi hj⟩

set_option maxHeartbeats 1000000 in
/-- sort.swapRange_func -/
theorem swapRange_walk (enc : α → Value) (g : Nat) (lb : Array Value) (sf : Nat) (sb : Array Value) (blk off : Nat) (d : Array α) (W : World)
    (hswap : SwapSwaps Try.prog sf sb enc blk off d.size) (hH : Holds enc W blk off d) (hblk : blk < W.heap.size) (A B N : Int) (a b n : Nat) (ea : A = a) (eb : B = b) (en : N = n) (hab : a + n ≤ b) (hb : b + n ≤ d.size) (hsz : d.size < 4611686018427387904) :
    Calls Try.prog 56 #[.agg #[.func (.func g) #[] lb, .func (.func sf) #[] sb], .int .i64 A, .int .i64 B, .int .i64 N] W fun e w' => e = .returned (.tuple #[]) ∧ Leaves enc W blk off (swapR d a b n) w' := by
  subst ea eb en
  have hH1 := boxed_holds (.func (.func g) #[] lb) (.func (.func sf) #[] sb) hblk hH
  have hlt := boxed_lt W (.func (.func g) #[] lb) (.func (.func sf) #[] sb)
  have hc1 := boxed_cell1 W (.func (.func g) #[] lb) (.func (.func sf) #[] sb)
  have hub := fun w' (h : Leaves enc (boxed W (.func (.func g) #[] lb) (.func (.func sf) #[] sb)) blk off (swapR d a b n) w') => h.unbox hblk
  have HU : Hid _ := hub
  go_enter Try.func56, Try.ntmps56
  go_wp2
  change Code.wp _ _ _ _ (boxed W (.func (.func g) #[] lb) (.func (.func sf) #[] sb))
  generalize boxed W (.func (.func g) #[] lb) (.func (.func sf) #[] sb) = Wb at *
  clear hub hH
  have hblk1 : blk < Wb.heap.size := by omega
  go_loopw [8] (fun vi wr => ∃ i : Nat, vi = .int .i64 i ∧ i ≤ n ∧ Leaves enc Wb blk off (swapR d a b i) wr) (fun vi _ => n - (intOf vi).toNat)
  case atStart => exact ⟨0, rfl, by omega, by rw [swapR_zero]; exact Leaves.start hH1⟩
  case round =>
    obtain ⟨i, rfl, hin, hL⟩ := hrel
    by_cases hlt2 : i < n
    · have hsz' : (swapR d a b i).size = d.size := size_swapR _ _ _ _
      have hHw := hL.holds hblk1 hH1 hsz'
      have hs := hswap wr _ hHw hsz' (a + i) (b + i) (by omega) (by omega)
      have hL2 := hL.swap hblk1 (a + i) (b + i) (by omega) (by omega)
      rw [swapR_succ d a b i (by omega) (by omega)] at hL2
      have cc : wr.cell? ⟨W.heap.size, 1, none⟩ = some (.func (.func sf) #[] sb) := by rw [hL.cell W.heap.size 1 hlt (by omega)]; exact hc1
      rw [Int.natCast_add, Int.natCast_add] at hs
      generalize enc (swapR d a b i)[b + i]! = e1 at hs hL2
      generalize enc (swapR d a b i)[a + i]! = e2 at hs hL2
      have HL2 : Hid _ := hL2
      clear hL hHw hsz' hL2 hswap hH1 hc1
      go_wp2
      go_roundw
      case rel => exact ⟨i + 1, by go_num, by omega, HL2.out⟩
      case measure => simp [intOf]; omega
    · have : i = n := by omega
      subst this
      go_wp2
      go_end0
      exact ⟨rfl, HU.out _ hL⟩

set_option maxHeartbeats 2000000 in
/-- sort.rotate_func -/
theorem rotate_walk (enc : α → Value) (g : Nat) (lb : Array Value) (sf : Nat) (sb : Array Value) (blk off : Nat) (d : Array α) (W : World)
    (hswap : SwapSwaps Try.prog sf sb enc blk off d.size) (hH : Holds enc W blk off d) (hblk : blk < W.heap.size) (A M B : Int) (a m b : Nat) (ea : A = a) (em : M = m) (eb : B = b) (ham : a < m) (hmb : m < b) (hb : b ≤ d.size) (hsz : d.size < 4611686018427387904) :
    Calls Try.prog 53 #[.agg #[.func (.func g) #[] lb, .func (.func sf) #[] sb], .int .i64 A, .int .i64 M, .int .i64 B] W fun e w' => e = .returned (.tuple #[]) ∧ Leaves enc W blk off (rotate d a m b) w' := by
  subst ea em eb
  have hH1 := boxed_holds (.func (.func g) #[] lb) (.func (.func sf) #[] sb) hblk hH
  have hlt := boxed_lt W (.func (.func g) #[] lb) (.func (.func sf) #[] sb)
  have hc0 := boxed_cell0 W (.func (.func g) #[] lb) (.func (.func sf) #[] sb)
  have hc1 := boxed_cell1 W (.func (.func g) #[] lb) (.func (.func sf) #[] sb)
  have hub := fun w' (h : Leaves enc (boxed W (.func (.func g) #[] lb) (.func (.func sf) #[] sb)) blk off (rotate d a m b) w') => h.unbox hblk
  have HU : Hid _ := hub
  go_enter Try.func53, Try.ntmps53
  go_wp2
  change Code.wp _ _ _ _ (boxed W (.func (.func g) #[] lb) (.func (.func sf) #[] sb))
  generalize boxed W (.func (.func g) #[] lb) (.func (.func sf) #[] sb) = Wb at *
  clear hub hH
  have hblk1 : blk < Wb.heap.size := by omega
  go_loopw [8, 9] (fun vi vj wr => ∃ (i j : Nat) (dk : Array α), vi = .int .i64 i ∧ vj = .int .i64 j ∧ 0 < i ∧ 0 < j ∧ i ≤ m ∧ m + j ≤ d.size ∧ dk.size = d.size ∧ Leaves enc Wb blk off dk wr ∧ rotate dk (m - i) m (m + j) = rotate d a m b)
    (fun vi vj _ => (intOf vi).toNat + (intOf vj).toNat)
  case atStart => exact ⟨m - a, b - m, d, by go_num, by go_num, by omega, by omega, by omega, by omega, rfl, Leaves.start hH1, by rw [show m - (m - a) = a by omega, show m + (b - m) = b by omega]⟩
  case round =>
    obtain ⟨i, j, dk, rfl, rfl, hi, hj, him, hmj, hds, hL, hR⟩ := hrel
    have HR : Hid (rotate dk (m - i) m (m + j) = rotate d a m b) := hR
    have HD : Hid (dk.size = d.size) := hds
    have hHw := hL.holds hblk1 hH1 hds
    have hbw := hL.lt hblk1
    have cc0 : wr.cell? ⟨W.heap.size, 0, none⟩ = some (.func (.func g) #[] lb) := by rw [hL.cell W.heap.size 0 hlt (by omega)]; exact hc0
    have cc1 : wr.cell? ⟨W.heap.size, 1, none⟩ = some (.func (.func sf) #[] sb) := by rw [hL.cell W.heap.size 1 hlt (by omega)]; exact hc1
    have hsw : SwapSwaps Try.prog sf sb enc blk off dk.size := by rw [hds]; exact hswap
    have hszk : dk.size < 4611686018427387904 := by omega
    have hmk : m + j ≤ dk.size := by omega
    clear hR hds hc0 hc1 hswap
    have HH1 : Hid _ := hH1
    clear hH1
    rcases Nat.lt_trichotomy i j with hij | hij | hij
    · have hne : ((i : Int) != (j : Int)) = true := by simp; omega
      have hS := swapRange_walk enc g lb sf sb blk off dk wr hsw hHw hbw ((m : Int) - i) ((m : Int) + j - i) i (m - i) (m + j - i) i (by omega) (by omega) rfl (by omega) (by omega) hszk
      clear hsw hHw
      go_wp2_with (go_at_call 56; refine hS.mono ?_; rintro e w' ⟨rfl, hL2⟩)
      have hL3 := hL.trans hblk1 hL2 (size_swapR _ _ _ _)
      go_roundw
      case rel => exact ⟨i, j - i, _, rfl, by go_num, hi, by omega, him, by omega, by rw [size_swapR, HD.out], hL3, by rw [rotate_down dk m i j him hij hmk]; exact HR.out⟩
      case measure => simp [intOf]; omega
    · subst hij
      have hne : ((i : Int) != (i : Int)) = false := by simp
      have hS := swapRange_walk enc g lb sf sb blk off dk wr hsw hHw hbw ((m : Int) - i) m i (m - i) m i (by omega) rfl rfl (by omega) (by omega) hszk
      clear hsw hHw
      go_wp2_with (go_at_call 56; refine hS.mono ?_; rintro e w' ⟨rfl, hL2⟩)
      go_end0
      have hL3 := hL.trans hblk1 hL2 (size_swapR _ _ _ _)
      rw [rotate_end dk m i him, HR.out] at hL3
      exact ⟨rfl, HU.out _ hL3⟩
    · have hne : ((i : Int) != (j : Int)) = true := by simp; omega
      have hS := swapRange_walk enc g lb sf sb blk off dk wr hsw hHw hbw ((m : Int) - i) m j (m - i) m j (by omega) rfl rfl (by omega) (by omega) hszk
      clear hsw hHw
      go_wp2_with (go_at_call 56; refine hS.mono ?_; rintro e w' ⟨rfl, hL2⟩)
      have hL3 := hL.trans hblk1 hL2 (size_swapR _ _ _ _)
      go_roundw
      case rel => exact ⟨i - j, j, _, by go_num, rfl, by omega, hj, by omega, hmj, by rw [size_swapR, HD.out], hL3, by rw [rotate_up dk m i j him hij hmk]; exact HR.out⟩
      case measure => simp [intOf]; omega

end Go.Proofs.Qxb6612885a
