/-
  The walks of keepsData and flagsAre, where they answer true.
-/
import Derived.Test.Qxb6612885aNb
import Derived.Deep.QuietTactic
import Derived.BigQuiet
namespace Go.Proofs.Qxb6612885a
open Go.RowKit Go.Sort

/-- the same data, the two flags aside -/
def N.same (x y : N) : Prop := x.it = y.it ∧ x.ua = y.ua ∧ x.ra = y.ra ∧ x.ld = y.ld

theorem NArg.gen {w : World} {v : Value} {ns : List N} (hv : NArg w v ns) : ∃ a c, v = .slice a ns.length c ∧ ∀ i, i < ns.length → ∃ b off, a = some ⟨b, off, none⟩ ∧ b < w.heap.size ∧ NAt w b (off + i * 6) ns[i]! := by
  rcases hv with ⟨rfl, a, c, rfl⟩ | ⟨b, off, c, rfl, hb, h⟩
  · exact ⟨a, c, rfl, fun i hi => absurd hi (Nat.not_lt_zero i)⟩
  · exact ⟨_, c, rfl, fun i hi => ⟨b, off, rfl, hb, h i hi⟩⟩

set_option maxHeartbeats 2000000 in
theorem keepsData_walk (v : Value) (ns ms : List N) (hn2 : ns.length ≤ 4096) (hlen : ms.length = ns.length) (hsame : ∀ i, i < ns.length → (ms[i]!).same ns[i]!) (w : World) (hv : NArg w v ns) (B : Nat) (hm : NsAt w B ms) :
    Calls Try.prog 14 #[v, .slice (some ⟨B, 0, none⟩) ns.length ns.length] w fun e w' => e = .returned (.bool true) ∧ ∃ q, w' = w.drewN q := by
  obtain ⟨a, c, rfl, hns⟩ := hv.gen
  have hms : ∀ i, i < ns.length → NAt w B (i * 6) ms[i]! := fun i hi => (hm i (by omega)).1
  generalize ns.length = n at *
  clear hm hv hlen
  go_enter Try.func14, Try.ntmps14
  go_wp2
  go_loopw [5] (fun i wr => ∃ k : Nat, k ≤ n ∧ i = .int .i64 k ∧ ∃ q, wr = w.drewN q) (fun i _ => n - (intOf i).toNat)
  case atStart => exact ⟨0, by omega, rfl, 0, rfl⟩
  case round =>
    obtain ⟨k, hk, rfl, q, rfl⟩ := hrel
    by_cases hlt : k < n
    · obtain ⟨b, off, rfl, _, hx⟩ := hns k hlt
      have hy := hms k hlt
      obtain ⟨s1, s2, s3, s4⟩ := hsame k hlt
      generalize ns[k]! = x at *
      generalize ms[k]! = y at *
      obtain ⟨it, un, op, ua, ra, ld⟩ := x
      obtain ⟨it2, un2, op2, ua2, ra2, ld2⟩ := y
      simp only at s1 s2 s3 s4
      subst s1 s2 s3 s4
      obtain ⟨c0, c1, c2, c3, c4, c5⟩ := hx
      obtain ⟨d0, d1, d2, d3, d4, d5⟩ := hy
      clear hns hms hsame
      have hbne : (it2 != it2) = false := by simp
      go_wp2_with fail
      go_quiet (fail)
      go_wp2_with fail
      go_quiet (first | (go_at_call 26; exact (sameF_walk _ _).mono (fun e w' h => ⟨h.1, _, h.2⟩)))
      go_wp2
      go_roundw
      case rel => exact ⟨k + 1, by omega, by go_num, _, rfl⟩
      case measure => simp [intOf]; omega
    · have : k = n := by omega
      subst this
      go_wp2
      go_ret
      exact ⟨rfl, q, rfl⟩

/-- a row of bools -/
def BsAt (w : World) (b : Nat) (us : List Bool) : Prop := ∀ i, i < us.length → w.cell? ⟨b, i, none⟩ = some (.bool us[i]!) ∧ w.frozen? ⟨b, i, none⟩ = false

set_option maxHeartbeats 2000000 in
theorem flagsAre_walk (ms : List N) (n : Nat) (hlen : ms.length = n) (us os : List Bool) (hu : us.length = n) (ho : os.length = n) (hn2 : n ≤ 4096) (h1 : ∀ i, i < n → (ms[i]!).un = us[i]!) (h2 : ∀ i, i < n → (ms[i]!).op = os[i]!) (w : World) (B bu bo cu co : Nat)
    (hm : NsAt w B ms) (hbu : BsAt w bu us) (hbo : BsAt w bo os) :
    Calls Try.prog 15 #[.slice (some ⟨B, 0, none⟩) n n, .slice (some ⟨bu, 0, none⟩) n cu, .slice (some ⟨bo, 0, none⟩) n co] w fun e w' => e = .returned (.bool true) ∧ ∃ q, w' = w.drewN q := by
  have hms : ∀ i, i < n → NAt w B (i * 6) ms[i]! := fun i hi => (hm i (by omega)).1
  have hus : ∀ i, i < n → w.cell? ⟨bu, i, none⟩ = some (.bool (ms[i]!).un) := fun i hi => by rw [h1 i hi]; exact (hbu i (by omega)).1
  have hos : ∀ i, i < n → w.cell? ⟨bo, i, none⟩ = some (.bool (ms[i]!).op) := fun i hi => by rw [h2 i hi]; exact (hbo i (by omega)).1
  clear hm hbu hbo h1 h2 hu ho hlen
  go_enter Try.func15, Try.ntmps15
  go_wp2
  go_loopw [7] (fun i wr => ∃ k : Nat, k ≤ n ∧ i = .int .i64 k ∧ ∃ q, wr = w.drewN q) (fun i _ => n - (intOf i).toNat)
  case atStart => exact ⟨0, by omega, rfl, 0, rfl⟩
  case round =>
    obtain ⟨k, hk, rfl, q, rfl⟩ := hrel
    by_cases hlt : k < n
    · have hy := hms k hlt
      have e1 := hus k hlt
      have e2 := hos k hlt
      generalize ms[k]! = y at *
      obtain ⟨it, un, op, ua, ra, ld⟩ := y
      obtain ⟨d0, d1, d2, d3, d4, d5⟩ := hy
      simp only at e1 e2 d0 d1 d2
      clear hms hus hos
      have hbne : (un != un) = false := by simp
      have hbne2 : (op != op) = false := by simp
      go_wp2_with fail
      go_quiet (fail)
      go_wp2
      go_roundw
      case rel => exact ⟨k + 1, by omega, by go_num, _, rfl⟩
      case measure => simp [intOf]; omega
    · have : k = n := by omega
      subst this
      go_wp2
      go_ret
      exact ⟨rfl, q, rfl⟩

end Go.Proofs.Qxb6612885a
