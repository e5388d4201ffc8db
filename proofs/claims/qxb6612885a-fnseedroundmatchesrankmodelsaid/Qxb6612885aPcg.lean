/-
  The walks of the generator: math/bits.Mul64, (*PCG).next, (*PCG).Uint64.
-/
import Derived.Test.Qxb6612885aProg
import Derived.Test.Qxb6612885aLcg
import Derived.WalkKit
import Derived.Shelf.Bits.Mul64
import Derived.Laws.Externs
import Derived.Deep.QuietTactic
import Derived.BigQuiet
namespace Go.Proofs.Qxb6612885a
open Go.RowKit Go.Lib

set_option maxHeartbeats 1000000 in
/-- math/bits.Mul64 -/
theorem mul64_walk (x y : Nat) (hx : x < 18446744073709551616) (hy : y < 18446744073709551616) (w : World) :
    Calls Try.prog 52 #[.int .u64 x, .int .u64 y] w fun e w' => e = .returned (.tuple #[.int .u64 ((x * y / 18446744073709551616 : Nat) : Int), .int .u64 ((x * y % 18446744073709551616 : Nat) : Int)]) ∧ w' = w := by
  obtain ⟨bd, bt, bw, hhi⟩ := Lib.mul64_hi x y hx hy
  have ba := Lib.half_mul_le (a := x / 4294967296) (b := y / 4294967296) (by omega) (by omega)
  have bb := Lib.half_mul_le (a := x / 4294967296) (b := y % 4294967296) (by omega) (by omega)
  have bc := Lib.half_mul_le (a := x % 4294967296) (b := y / 4294967296) (by omega) (by omega)
  have ba' : x / 4294967296 * (y / 4294967296) < 18446744073709551616 := by omega
  have bb' : x / 4294967296 * (y % 4294967296) < 18446744073709551616 := by omega
  have bc' : x % 4294967296 * (y / 4294967296) < 18446744073709551616 := by omega
  have bh1 : x / 4294967296 * (y / 4294967296) + (x / 4294967296 * (y % 4294967296) + x % 4294967296 * (y % 4294967296) / 4294967296) / 4294967296 < 18446744073709551616 := by omega
  have bh : x / 4294967296 * (y / 4294967296) + (x / 4294967296 * (y % 4294967296) + x % 4294967296 * (y % 4294967296) / 4294967296) / 4294967296 + ((x / 4294967296 * (y % 4294967296) + x % 4294967296 * (y % 4294967296) / 4294967296) % 4294967296 + x % 4294967296 * (y / 4294967296)) / 4294967296 < 18446744073709551616 := by omega
  go_enter Try.func52, Try.ntmps52
  go_wp2
  simp only [Mul64.maskN x hx, Mul64.maskN y hy, Mul64.divN, Mul64.mulN, Mul64.addN, Mul64.wrapN _ bd, Mul64.wrapN _ bb', Mul64.wrapN _ bt, Mul64.maskN _ bt, Mul64.wrapN _ bc', Mul64.wrapN _ bw, Mul64.wrapN _ ba', Mul64.wrapN _ bh1, Mul64.wrapN _ bh, Mul64.wrapM (x * y)]
  rw [hhi]
  go_ret2
  exact ⟨rfl, rfl⟩

/-- math/bits.Add64, a law of the call -/
theorem add64_run (x y c : Int) (hx : 0 ≤ x) (hy : 0 ≤ y) (hc0 : 0 ≤ c) (hc : c ≤ 1) (w : World) :
    (callFunc 75 #[.int .u64 x, .int .u64 y, .int .u64 c]).run Try.prog w =
      .ok (.value (.tuple #[.int .u64 ((x + y + c) % 18446744073709551616), .int .u64 ((x + y + c) / 18446744073709551616)])) w := by
  rw [run_callFunc_extern Try.func75 (by kernel_rfl) (by kernel_rfl) (by kernel_rfl) (e := add64Entry) (by kernel_rfl), run_add64 x y c hx hy hc0 hc]
  rfl

theorem add64_0 (x y : Int) (hx : 0 ≤ x) (hy : 0 ≤ y) (w : World) :
    (callFunc 75 #[.int .u64 x, .int .u64 y, .int .u64 0]).run Try.prog w =
      .ok (.value (.tuple #[.int .u64 ((x + y) % 18446744073709551616), .int .u64 ((x + y) / 18446744073709551616)])) w := by
  have := add64_run x y 0 hx hy (by omega) (by omega) w
  rw [Int.add_zero] at this
  exact this

/-- The next state, as the text reckons it: its halves. -/
def nL (l : Nat) : Nat := (l * 4865540595714422341 % 18446744073709551616 + 1442695040888963407) % 18446744073709551616
def nC (l : Nat) : Nat := (l * 4865540595714422341 % 18446744073709551616 + 1442695040888963407) / 18446744073709551616
def nH1 (h l : Nat) : Nat := (l * 4865540595714422341 / 18446744073709551616 + ((h * 4865540595714422341) % 18446744073709551616 + (l * 2549297995355413924) % 18446744073709551616) % 18446744073709551616) % 18446744073709551616
def nH (h l : Nat) : Nat := (nH1 h l + 6364136223846793005 + nC l) % 18446744073709551616

theorem nL_lt (l : Nat) : nL l < 18446744073709551616 := Nat.mod_lt _ (by omega)
theorem nH_lt (h l : Nat) : nH h l < 18446744073709551616 := Nat.mod_lt _ (by omega)
theorem nC_le (l : Nat) : nC l ≤ 1 := by unfold nC; omega

theorem next_eqs (h l : Nat) : IntKind.u64.wrap ((l : Int) * 4865540595714422341 / 18446744073709551616 + IntKind.u64.wrap (IntKind.u64.wrap ((h : Int) * 4865540595714422341) + IntKind.u64.wrap ((l : Int) * 2549297995355413924))) = (nH1 h l : Nat) ∧
    ((l : Int) * 4865540595714422341 % 18446744073709551616 + 1442695040888963407) % 18446744073709551616 = (nL l : Nat) ∧ ((l : Int) * 4865540595714422341 % 18446744073709551616 + 1442695040888963407) / 18446744073709551616 = (nC l : Nat) := by
  refine ⟨?_, ?_, ?_⟩
  · simp only [IntKind.wrap_u64]; unfold nH1; simp only [Int.natCast_emod, Int.natCast_add, Int.natCast_mul, Int.natCast_ediv]; rfl
  · unfold nL; omega
  · unfold nC; omega

/-- math/bits.Mul64 with its answer spelled in whole numbers -/
theorem mul64_int (x y : Nat) (X Y P Q : Int) (hx : x < 18446744073709551616) (hy : y < 18446744073709551616) (hX : (x : Int) = X) (hY : (y : Int) = Y)
    (hP : X * Y / 18446744073709551616 = P) (hQ : X * Y % 18446744073709551616 = Q) (w : World) :
    Calls Try.prog 52 #[.int .u64 X, .int .u64 Y] w fun e w' => e = .returned (.tuple #[.int .u64 P, .int .u64 Q]) ∧ w' = w := by
  have h := mul64_walk x y hx hy w
  subst hX hY hP hQ
  simp only [Int.natCast_emod, Int.natCast_mul, Int.natCast_ediv] at h
  exact h

/-- (*PCG).next, its numbers named -/
theorem next_named (h l : Nat) (M1 L0 M2 M3 : Int) (H1 C1 L2 H2 : Nat) (b : Nat) (w : World) (c0 : w.cell? ⟨b, 0, none⟩ = some (.int .u64 h)) (c1 : w.cell? ⟨b, 1, none⟩ = some (.int .u64 l))
    (f0 : w.frozen? ⟨b, 0, none⟩ = false) (f1 : w.frozen? ⟨b, 1, none⟩ = false)
    (hm : ∀ w, Calls Try.prog 52 #[.int .u64 (l : Int), .int .u64 4865540595714422341] w fun e w' => e = .returned (.tuple #[.int .u64 M1, .int .u64 L0]) ∧ w' = w)
    (E2 : Hid (IntKind.u64.wrap ((h : Int) * 4865540595714422341) = M2)) (E3 : Hid (IntKind.u64.wrap ((l : Int) * 2549297995355413924) = M3))
    (E1 : Hid (IntKind.u64.wrap (M1 + IntKind.u64.wrap (M2 + M3)) = (H1 : Nat)))
    (Q : Int)
    (ha1 : ∀ w, (callFunc 75 #[.int .u64 L0, .int .u64 1442695040888963407, .int .u64 0]).run Try.prog w = .ok (.value (.tuple #[.int .u64 (L2 : Nat), .int .u64 (C1 : Nat)])) w)
    (ha2 : ∀ w, (callFunc 75 #[.int .u64 (H1 : Nat), .int .u64 6364136223846793005, .int .u64 (C1 : Nat)]).run Try.prog w = .ok (.value (.tuple #[.int .u64 (H2 : Nat), .int .u64 Q])) w) :
    Calls Try.prog 74 #[.pointer (some ⟨b, 0, none⟩)] w fun e w' => e = .returned (.tuple #[.int .u64 (H2 : Nat), .int .u64 (L2 : Nat)]) ∧ ∃ q, w' = ((w.setCell ⟨b, 1, none⟩ (.int .u64 (L2 : Nat))).setCell ⟨b, 0, none⟩ (.int .u64 (H2 : Nat))).drewN q := by
  go_enter Try.func74, Try.ntmps74
  go_wp2_with (first | (go_at_call 52; refine (hm _).mono ?_; rintro e w' ⟨rfl, hw⟩; subst w'))
  go_quiet (fail)
  rw [E2.out, E3.out, E1.out]
  clear E1 E2 E3 hm
  go_wp2
  go_ret2
  exact ⟨rfl, nq, rfl⟩

/-- (*PCG).next -/
theorem next_walk (h l : Nat) (hl : l < 18446744073709551616) (b : Nat) (w : World) (c0 : w.cell? ⟨b, 0, none⟩ = some (.int .u64 h)) (c1 : w.cell? ⟨b, 1, none⟩ = some (.int .u64 l))
    (f0 : w.frozen? ⟨b, 0, none⟩ = false) (f1 : w.frozen? ⟨b, 1, none⟩ = false) :
    Calls Try.prog 74 #[.pointer (some ⟨b, 0, none⟩)] w fun e w' => e = .returned (.tuple #[.int .u64 (nH h l : Nat), .int .u64 (nL l : Nat)]) ∧ ∃ q, w' = ((w.setCell ⟨b, 1, none⟩ (.int .u64 (nL l : Nat))).setCell ⟨b, 0, none⟩ (.int .u64 (nH h l : Nat))).drewN q := by
  obtain ⟨e1, e2, e3⟩ := next_eqs h l
  have hc1 := nC_le l
  have he : ((nH1 h l : Nat) + 6364136223846793005 + (nC l : Nat) : Int) % 18446744073709551616 = (nH h l : Nat) := by unfold nH; omega
  have ha1 := fun w => add64_0 ((l : Int) * 4865540595714422341 % 18446744073709551616) 1442695040888963407 (by omega) (by omega) w
  rw [e2, e3] at ha1
  have ha2 := fun w => add64_run (nH1 h l : Nat) 6364136223846793005 (nC l : Nat) (by omega) (by omega) (by omega) (by omega) w
  rw [he] at ha2
  exact next_named h l ((l : Int) * 4865540595714422341 / 18446744073709551616) ((l : Int) * 4865540595714422341 % 18446744073709551616) (IntKind.u64.wrap ((h : Int) * 4865540595714422341)) (IntKind.u64.wrap ((l : Int) * 2549297995355413924)) (nH1 h l) (nC l) (nL l) (nH h l) b w c0 c1 f0 f1
    (fun w => mul64_int l 4865540595714422341 (l : Int) 4865540595714422341 _ _ hl (by omega) rfl (by omega) rfl rfl w) (Eq.refl (IntKind.u64.wrap ((h : Int) * 4865540595714422341))) (Eq.refl (IntKind.u64.wrap ((l : Int) * 2549297995355413924))) e1 _ ha1 ha2

/-- What the generator hands out at a state, as the text reckons it. -/
def outI (h l : Nat) : Int :=
  IntKind.u64.wrap (bits BinOp.xor IntKind.u64 (IntKind.u64.wrap (bits BinOp.xor IntKind.u64 (h : Int) ((h : Int) / 4294967296) * 15750249268501108917))
    (IntKind.u64.wrap (bits BinOp.xor IntKind.u64 (h : Int) ((h : Int) / 4294967296) * 15750249268501108917) / 281474976710656) * bits BinOp.or IntKind.u64 (l : Int) 1)

def outN (h l : Nat) : Nat := (outI h l).toNat

theorem outI_eq (h l : Nat) : outI h l = (outN h l : Nat) ∧ outN h l < 18446744073709551616 := by
  have h1 : 0 ≤ outI h l ∧ outI h l < 18446744073709551616 := by
    unfold outI
    rw [IntKind.wrap_u64]
    omega
  unfold outN
  omega

set_option maxHeartbeats 1000000 in
/-- (*PCG).Uint64 -/
theorem pcg_walk (h l : Nat) (hl : l < 18446744073709551616) (b : Nat) (w : World) (c0 : w.cell? ⟨b, 0, none⟩ = some (.int .u64 h)) (c1 : w.cell? ⟨b, 1, none⟩ = some (.int .u64 l))
    (f0 : w.frozen? ⟨b, 0, none⟩ = false) (f1 : w.frozen? ⟨b, 1, none⟩ = false) :
    Calls Try.prog 73 #[.pointer (some ⟨b, 0, none⟩)] w fun e w' => e = .returned (.int .u64 (outN (nH h l) (nL l) : Nat)) ∧ ∃ q, w' = ((w.setCell ⟨b, 1, none⟩ (.int .u64 (nL l : Nat))).setCell ⟨b, 0, none⟩ (.int .u64 (nH h l : Nat))).drewN q := by
  have hn := next_walk h l hl b w c0 c1 f0 f1
  have h1 := nL_lt l
  have h2 := nH_lt h l
  generalize nL l = L2 at *
  generalize nH h l = H2 at *
  have ho := (outI_eq H2 L2).1
  unfold outI at ho
  have HO : Hid _ := ho
  clear ho
  go_enter Try.func73, Try.ntmps73
  go_wp2_with (first | (go_at_call 74; refine hn.mono ?_; rintro e w' ⟨rfl, q, hw⟩; subst w'))
  rw [HO.out]
  go_ret
  exact ⟨rfl, q, rfl⟩

end Go.Proofs.Qxb6612885a
