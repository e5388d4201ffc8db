/-
  The walks of (*Rand).uint64n, (*Rand).IntN.
-/
import Derived.Test.Qxb6612885aDrawW
import Derived.Test.Qxb6612885aKeep
namespace Go.Proofs.Qxb6612885a
open Go.Shelf Go.RowKit Go.Lib Go.Sort

theorem row2_size (s t : Nat × Nat) : (row2 s).size = (row2 t).size := rfl

set_option maxHeartbeats 4000000 in
/-- (*Rand).uint64n -/
theorem uint64n_walk (n : Nat) (hn : 0 < n) (hn2 : n < 18446744073709551616) (s : Nat × Nat) (hs : s.2 < 18446744073709551616) (b r : Nat) (w : World) (H : Holds encU w b 0 (row2 s)) (hb : b < w.heap.size) (hrl : r < w.heap.size) (hrb : r ≠ b)
    (hr : w.cell? ⟨r, 0, none⟩ = some (.iface 45 (.pointer (some ⟨b, 0, none⟩)))) :
    Calls Try.prog 38 #[.pointer (some ⟨r, 0, none⟩), .int .u64 (n : Nat)] w fun e w' => ∃ k s', e = .returned (.int .u64 (k : Nat)) ∧ DrawR n s k ∧ s'.2 < 18446744073709551616 ∧ Leaves encU w b 0 (row2 s') w' := by
  have h1 := fun w H hr => rand_row s hs b r w H hr
  have hmul := fun p w => mulP n p hn2 w
  have hand : bits .and .u64 (n : Int) ((n : Int) - 1) = ((n &&& (n - 1) : Nat) : Int) := by
    have h := u64_and_nat n (n - 1) hn2 (by omega)
    rw [show ((n - 1 : Nat) : Int) = (n : Int) - 1 by omega] at h
    exact h
  have hand2 : bits .and .u64 (outP (nx s) : Int) ((n : Int) - 1) = ((outP (nx s) &&& (n - 1) : Nat) : Int) := by
    have h := u64_and_nat (outP (nx s)) (n - 1) (outP_lt _) (by omega)
    rw [show ((n - 1 : Nat) : Int) = (n : Int) - 1 by omega] at h
    exact h
  go_enter Try.func38, Try.ntmps38
  go_wp2_with (first | (go_at_call 51; refine (h1 _ H hr).mono ?_; rintro e w' ⟨rfl, hw⟩) | (go_at_call 52; refine (hmul _ _).mono ?_; rintro e w2 ⟨rfl, hw2⟩; subst w2))
  · skip
    go_ret
    exact ⟨_, nx s, rfl, Or.inl ⟨by first | omega | (simp_all; done), rfl⟩, (nx_lt s).2, hw⟩
  · have hnz : n &&& (n - 1) ≠ 0 := by first | omega | (simp_all; done)
    have ht : (IntKind.u64.wrap (-(n : Int))).tmod n = (thr n : Nat) := by
      rw [IntKind.wrap_u64, show (-(n : Int)) % 18446744073709551616 = ((18446744073709551616 - n : Nat) : Int) by omega]
      unfold thr
      rw [Int.natCast_emod, Int.tmod_eq_emod_of_nonneg (by omega)]
    obtain ⟨dist, hdist⟩ := dist_ex n hn hn2
    have hdr : ∀ k, (∀ j, j < k → lowN n (pst (j + 1) s) < thr n) → thr n ≤ lowN n (pst (k + 1) s) → DrawR n s (hiN n (pst (k + 1) s)) := fun k ha hb => Or.inr ⟨hnz, k, ha, hb, rfl⟩
    obtain ⟨T, hT⟩ : ∃ T, thr n = T := ⟨_, rfl⟩
    rw [hT] at ht hdist hdr
    have hlo : lowN n (nx s) < n := by assumption
    rw [ht, decide_eq_true hlo]
    go_loopw [5, 6] (fun vh vl wr => ∃ k : Nat, vh = .int .u64 (hiN n (pst (k + 1) s) : Nat) ∧ vl = .int .u64 (lowN n (pst (k + 1) s) : Nat) ∧ (∀ j, j < k → lowN n (pst (j + 1) s) < T) ∧ Leaves encU w b 0 (row2 (pst (k + 1) s)) wr) (fun _ _ wr => dist (rd b wr))
    case atStart => exact ⟨0, by rw [pst_succ, pst_zero], by rw [pst_succ, pst_zero], fun j hj => absurd hj (Nat.not_lt_zero j), by rw [pst_succ, pst_zero]; exact hw⟩
    case round =>
      obtain ⟨k, rfl, rfl, hk, hL⟩ := hrel
      have hH2 := hL.holds hb H (row2_size _ _)
      have hr2 : wr.cell? ⟨r, 0, none⟩ = some (.iface 45 (.pointer (some ⟨b, 0, none⟩))) := by rw [hL.cell r 0 hrl hrb]; exact hr
      have hlt2 : (pst (k + 1) s).2 < 18446744073709551616 := by rw [pst_succ]; exact (nx_lt _).2
      have h2 := rand_row (pst (k + 1) s) hlt2 b r wr hH2 hr2
      have hrd := rd_row hH2
      rw [← pst_succ] at h2
      have hd2 : lowN n (pst (k + 1) s) < T → dist (pst (k + 2) s) < dist (pst (k + 1) s) := fun h => by
        rw [pst_succ (k + 1)]; exact hdist _ h
      clear hand hand2 h1
      generalize hp1 : pst (k + 1) s = p1 at *
      generalize hp2 : pst (k + 1 + 1) s = p2 at *
      by_cases hlt : lowN n p1 < T
      · clear hH2
        have hp2l : p2.2 < 18446744073709551616 := by rw [← hp2, pst_succ]; exact (nx_lt _).2
        go_wp2_with (first | (go_at_call 51; refine h2.mono ?_; rintro e w3 ⟨rfl, hw3⟩) | (go_at_call 52; refine (hmul _ _).mono ?_; rintro e w2 ⟨rfl, hw2⟩; subst w2))
        have hL3 := hL.trans hb hw3 (row2_size _ _)
        have hrd3 := rd_row (hL3.holds hb H (row2_size _ _))
        go_roundw
        case rel =>
          refine ⟨k + 1, by rw [hp2], by rw [hp2], fun j hj => ?_, by rw [hp2]; exact hL3⟩
          by_cases hjk : j < k
          · exact hk j hjk
          · have : j = k := by omega
            subst this
            rw [hp1]; exact hlt
        case measure => rw [hrd3, hrd]; exact hd2 hlt
      · go_wp2
        go_ret
        exact ⟨_, p1, rfl, by rw [← hp1]; exact hdr k hk (by rw [hp1]; omega), hlt2, hL⟩
  · go_ret
    refine ⟨_, nx s, rfl, Or.inr ⟨by first | omega | (simp_all; done), 0, fun j hj => absurd hj (Nat.not_lt_zero j), ?_, rfl⟩, (nx_lt s).2, hw⟩
    have := Nat.mod_lt (18446744073709551616 - n) hn
    unfold thr
    rw [pst_succ, pst_zero]
    omega

/-- (*Rand).IntN -/
theorem intN_walk (n : Nat) (hn : 0 < n) (hn2 : n < 9223372036854775808) (s : Nat × Nat) (hs : s.2 < 18446744073709551616) (b r : Nat) (w : World) (H : Holds encU w b 0 (row2 s)) (hb : b < w.heap.size) (hrl : r < w.heap.size) (hrb : r ≠ b)
    (hr : w.cell? ⟨r, 0, none⟩ = some (.iface 45 (.pointer (some ⟨b, 0, none⟩)))) :
    Calls Try.prog 32 #[.pointer (some ⟨r, 0, none⟩), .int .i64 (n : Nat)] w fun e w' => ∃ k s', e = .returned (.int .i64 (k : Nat)) ∧ DrawR n s k ∧ s'.2 < 18446744073709551616 ∧ Leaves encU w b 0 (row2 s') w' := by
  have hu := uint64n_walk n hn (by omega) s hs b r w H hb hrl hrb hr
  have hlt := fun k (h : DrawR n s k) => DrawR.lt hn h
  have HL : Hid _ := hlt
  clear hlt
  go_enter Try.func32, Try.ntmps32
  go_wp2_with (go_at_call 38; refine hu.mono ?_; rintro e w' ⟨k, s', rfl, hd, hs', hw⟩; have hk := HL.out k hd)
  go_ret
  exact ⟨k, s', rfl, hd, hs', hw⟩

/-- math/rand/v2.NewPCG -/
theorem newPCG_walk (s : Nat × Nat) (w : World) :
    Calls Try.prog 22 #[.int .u64 s.1, .int .u64 s.2] w fun e w' => e = .returned (.pointer (some ⟨w.heap.size, 0, none⟩)) ∧ w' = w.alloc (.cells #[encU s.1, encU s.2] 60) := by
  go_enter Try.func22, Try.ntmps22
  go_wp2
  go_ret
  exact ⟨rfl, rfl⟩

/-- math/rand/v2.New -/
theorem new_walk (t : TypeId) (v : Value) (w : World) :
    Calls Try.prog 21 #[.iface t v] w fun e w' => e = .returned (.pointer (some ⟨w.heap.size, 0, none⟩)) ∧ w' = w.alloc (.cells #[.iface t v] 58) := by
  go_enter Try.func21, Try.ntmps21
  go_wp2
  go_ret
  exact ⟨rfl, rfl⟩

/-- rand.New(rand.NewPCG(s1, s2)): two new blocks -/
def rnd (w : World) (s : Nat × Nat) : World := (w.alloc (.cells #[encU s.1, encU s.2] 60)).alloc (.cells #[.iface 45 (.pointer (some ⟨w.heap.size, 0, none⟩))] 58)

theorem rnd_size (w : World) (s : Nat × Nat) : (rnd w s).heap.size = w.heap.size + 2 := by simp [rnd]
theorem rnd_holds (w : World) (s : Nat × Nat) : Holds encU (rnd w s) w.heap.size 0 (row2 s) := by
  intro j hj
  have h : j = 0 ∨ j = 1 := by have : (row2 s).size = 2 := rfl; omega
  unfold rnd
  rcases h with rfl | rfl
  · constructor
    · simp [World.cell?_alloc2_first]
    · simp
  · constructor
    · simp [World.cell?_alloc2_first]
    · simp
theorem rnd_cell (w : World) (s : Nat × Nat) : (rnd w s).cell? ⟨w.heap.size + 1, 0, none⟩ = some (.iface 45 (.pointer (some ⟨w.heap.size, 0, none⟩))) := by
  unfold rnd
  rw [World.cell?_alloc_at #[.iface 45 (.pointer (some ⟨w.heap.size, 0, none⟩))] 58 _ 0 (by simp)]; rfl

theorem rnd_below (w : World) (s : Nat × Nat) : RowKit.Below w.heap.size w (rnd w s) := ((RowKit.Below.refl _ w).alloc (Nat.le_refl _) _).alloc (by simp) _

/-- ZZdraw -/
theorem draw_walk (n : Nat) (hn : 0 < n) (hn2 : n < 9223372036854775808) (s : Nat × Nat) (hs : s.2 < 18446744073709551616) (w : World) :
    Calls Try.prog 25 #[.int .u64 s.1, .int .u64 s.2, .int .i64 (n : Nat)] w fun e w' => ∃ k, e = .returned (.int .i64 (k : Nat)) ∧ DrawR n s k ∧ RowKit.Below w.heap.size w w' := by
  have hi := intN_walk n hn hn2 s hs w.heap.size (w.heap.size + 1) (rnd w s) (rnd_holds w s) (by rw [rnd_size]; omega) (by rw [rnd_size]; omega) (by omega) (rnd_cell w s)
  have hp := newPCG_walk s
  have hN := new_walk
  go_enter Try.func25, Try.ntmps25
  go_wp2_with (first | (go_at_call 22; refine (hp _).mono ?_; rintro e w' ⟨rfl, hw⟩; subst w') | (go_at_call 21; refine (hN _ _ _).mono ?_; rintro e w' ⟨rfl, hw⟩; subst w') | (go_at_call 32; refine hi.mono ?_; rintro e w' ⟨k, s', rfl, hd, hs', hw⟩))
  go_ret
  refine ⟨k, rfl, hd, ?_⟩
  have hk := (hw.keep).below (B := w.heap.size) (by rw [rnd_size]; omega) (fun k hk => by simp at hk; omega)
  exact (rnd_below w s).trans hk

/-- what ZZnewChoker leaves -/
def chk (w : World) (s : Nat × Nat) (slots : Int) (at_ : Nat) (rounds : Int) : World := (rnd w s).alloc (.cells #[.int .i64 slots, .pointer (some ⟨w.heap.size + 1, 0, none⟩), .int .i64 rounds, .float .f64 at_, .slice none 0 0] 49)

/-- ZZnewChoker -/
theorem newChoker_walk (s : Nat × Nat) (slots rounds : Int) (at_ : Nat) (w : World) :
    Calls Try.prog 11 #[.int .i64 slots, .int .u64 s.1, .int .u64 s.2, .float .f64 at_, .int .i64 rounds] w fun e w' => e = .returned (.pointer (some ⟨w.heap.size + 2, 0, none⟩)) ∧ w' = chk w s slots at_ rounds := by
  have hp := newPCG_walk s
  have hN := new_walk
  go_enter Try.func11, Try.ntmps11
  go_wp2_with (first | (go_at_call 22; refine (hp _).mono ?_; rintro e w' ⟨rfl, hw⟩; subst w') | (go_at_call 21; refine (hN _ _ _).mono ?_; rintro e w' ⟨rfl, hw⟩; subst w'))
  go_ret
  exact ⟨rfl, rfl⟩

end Go.Proofs.Qxb6612885a
