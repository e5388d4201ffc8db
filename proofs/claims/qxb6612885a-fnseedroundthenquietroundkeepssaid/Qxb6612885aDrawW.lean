/-
  The walks of (*Rand).Uint64, (*Rand).uint64n, (*Rand).IntN.
-/
import Derived.Test.Qxb6612885aRot
import Derived.Test.Qxb6612885aDraw
import Derived.Laws.BitsAllLaws
namespace Go.Proofs.Qxb6612885a
open Go.Shelf Go.RowKit Go.Lib Go.Sort

abbrev encU (k : Nat) : Value := .int .u64 (k : Int)
abbrev row2 (s : Nat × Nat) : Array Nat := #[s.1, s.2]

theorem gen_set {w : World} {b : Nat} {s s2 : Nat × Nat} (H : Holds encU w b 0 (row2 s)) (q : Nat) :
    Leaves encU w b 0 (row2 s2) (((w.setCell ⟨b, 1, none⟩ (encU s2.2)).setCell ⟨b, 0, none⟩ (encU s2.1)).drewN q) := by
  refine Leaves.drewN ?_ q
  have h0 := putRow_self encU w b 0 (row2 s) H
  have h1 := putRow_set encU w b 0 (row2 s) 1 s2.2 (by show 1 < 2; omega)
  have h2 := putRow_set encU w b 0 ((row2 s).setIfInBounds 1 s2.2) 0 s2.1 (by simp)
  rw [h0] at h1
  rw [← h1] at h2
  refine ⟨0, #[], ?_⟩
  show _ = grow (putRow encU w b 0 (row2 s2)) #[]
  have hg : ∀ v : World, grow v #[] = v := fun v => by simp [grow]
  rw [hg]
  exact h2

theorem gen_c0 {w : World} {b : Nat} {s : Nat × Nat} (H : Holds encU w b 0 (row2 s)) : w.cell? ⟨b, 0, none⟩ = some (.int .u64 s.1) := (H 0 (by show 0 < 2; omega)).1
theorem gen_c1 {w : World} {b : Nat} {s : Nat × Nat} (H : Holds encU w b 0 (row2 s)) : w.cell? ⟨b, 1, none⟩ = some (.int .u64 s.2) := (H 1 (by show 1 < 2; omega)).1
theorem gen_f0 {w : World} {b : Nat} {s : Nat × Nat} (H : Holds encU w b 0 (row2 s)) : w.frozen? ⟨b, 0, none⟩ = false := (H 0 (by show 0 < 2; omega)).2
theorem gen_f1 {w : World} {b : Nat} {s : Nat × Nat} (H : Holds encU w b 0 (row2 s)) : w.frozen? ⟨b, 1, none⟩ = false := (H 1 (by show 1 < 2; omega)).2

def outP (s : Nat × Nat) : Nat := outN s.1 s.2

theorem outP_lt (s : Nat × Nat) : outP s < 18446744073709551616 := (outI_eq s.1 s.2).2

/-- (*PCG).Uint64 over a row -/
theorem pcg_row (s : Nat × Nat) (hs : s.2 < 18446744073709551616) (b : Nat) (w : World) (H : Holds encU w b 0 (row2 s)) :
    Calls Try.prog 73 #[.pointer (some ⟨b, 0, none⟩)] w fun e w' => e = .returned (.int .u64 (outP (nx s) : Nat)) ∧ Leaves encU w b 0 (row2 (nx s)) w' := by
  refine (pcg_walk s.1 s.2 hs b w (gen_c0 H) (gen_c1 H) (gen_f0 H) (gen_f1 H)).mono ?_
  rintro e w' ⟨rfl, q, rfl⟩
  exact ⟨rfl, gen_set (s2 := nx s) H q⟩

theorem rnd_method (a : Addr) (w : World) : (method 210 45 (.pointer (some a)) "Uint64").run Try.prog w = .ok (73, .pointer (some a)) w := by kernel_rfl

/-- (*Rand).Uint64 -/
theorem rand_row (s : Nat × Nat) (hs : s.2 < 18446744073709551616) (b r : Nat) (w : World) (H : Holds encU w b 0 (row2 s)) (hr : w.cell? ⟨r, 0, none⟩ = some (.iface 45 (.pointer (some ⟨b, 0, none⟩)))) :
    Calls Try.prog 51 #[.pointer (some ⟨r, 0, none⟩)] w fun e w' => e = .returned (.int .u64 (outP (nx s) : Nat)) ∧ Leaves encU w b 0 (row2 (nx s)) w' := by
  have hp := fun w H => pcg_row s hs b w H
  have hm := fun a w => rnd_method a w
  go_enter Try.func51, Try.ntmps51
  go_wp2_with (go_at_call 73; refine (hp _ H).mono ?_; rintro e w' ⟨rfl, hw⟩)
  go_ret
  exact ⟨rfl, hw⟩

theorem least (P : Nat → Prop) : ∀ k, P k → ∃ d, P d ∧ ∀ j, j < d → ¬ P j := by
  intro k
  induction k using Nat.strongRecOn with
  | ind k ih =>
    intro hk
    by_cases h : ∃ j, j < k ∧ P j
    · obtain ⟨j, hj, hp⟩ := h; exact ih j hj hp
    · exact ⟨k, hk, fun j hj hp => h ⟨j, hj, hp⟩⟩

theorem pst_zero (s : Nat × Nat) : pst 0 s = s := rfl
theorem pst_succ (k : Nat) (s : Nat × Nat) : pst (k + 1) s = nx (pst k s) := rfl
theorem pst_nx (s : Nat × Nat) (k : Nat) : pst (k + 1) s = pst k (nx s) := by
  induction k with
  | zero => rw [pst_succ, pst_zero, pst_zero]
  | succ k ih => rw [pst_succ (k + 1) s, ih, ← pst_succ]

/-- How many draws more till one is taken. -/
theorem dist_ex (n : Nat) (hn : 0 < n) (hn2 : n < 18446744073709551616) : ∃ dist : Nat × Nat → Nat, ∀ p, lowN n p < thr n → dist (nx p) < dist p := by
  have h : ∀ p : Nat × Nat, ∃ d, thr n ≤ lowN n (pst d p) ∧ ∀ j, j < d → ¬ thr n ≤ lowN n (pst j p) := fun p => by
    obtain ⟨k, hk⟩ := draw_comes n hn hn2 p
    exact least (fun d => thr n ≤ lowN n (pst d p)) _ hk
  obtain ⟨f, hf⟩ := Classical.skolem.mp h
  refine ⟨f, fun p hp => ?_⟩
  obtain ⟨h1, h2⟩ := hf p
  obtain ⟨h3, h4⟩ := hf (nx p)
  have h5 : f p ≠ 0 := fun h0 => by
    rw [h0] at h1
    rw [pst_zero] at h1
    omega
  obtain ⟨d, hd⟩ : ∃ d, f p = d + 1 := ⟨f p - 1, by omega⟩
  rw [hd, pst_nx] at h1
  have : ¬ d < f (nx p) := fun hlt => h4 d hlt h1
  omega

def natOf : Option Value → Nat
  | some (.int _ n) => n.toNat
  | _ => 0
def rd (b : Nat) (w : World) : Nat × Nat := (natOf (w.cell? ⟨b, 0, none⟩), natOf (w.cell? ⟨b, 1, none⟩))
theorem rd_row {w : World} {b : Nat} {s : Nat × Nat} (H : Holds encU w b 0 (row2 s)) : rd b w = s := by
  unfold rd; rw [gen_c0 H, gen_c1 H]; rfl

theorem mulP (n : Nat) (p : Nat × Nat) (hn : n < 18446744073709551616) (w : World) :
    Calls Try.prog 52 #[.int .u64 (outP p : Nat), .int .u64 (n : Nat)] w fun e w' => e = .returned (.tuple #[.int .u64 (hiN n p : Nat), .int .u64 (lowN n p : Nat)]) ∧ w' = w :=
  mul64_walk (outP p) n (outP_lt p) hn w

end Go.Proofs.Qxb6612885a
