/-
  Slices of strings in memory, and the contracts of the law's read-only helpers.
-/
import Derived.Test.Qxb6609488aProg
import Derived.WalkKit
import Derived.ProofKit
import Derived.Below
import Derived.Lib.SlicesS
import Derived.Deep.QuietTactic
import Derived.BigQuiet
namespace Go.Proofs.Qxb6609488a
open Go.RowKit

/-- A []string value that leads to the strings ss. -/
def SH (w : World) (v : Value) (ss : List ByteArray) : Prop :=
  ss.length ≤ 9223372036854775807 ∧ ((ss = [] ∧ ∃ a c, v = .slice a 0 c) ∨
  ∃ b off c, v = .slice (some ⟨b, off, none⟩) ss.length c ∧ ∀ i, i < ss.length → w.cell? ⟨b, off + i, none⟩ = some (.string (ss.getD i ByteArray.empty)))

/-- The call hands back some bool. -/
def AnyBool (e : Ending) : Prop := ∃ r : Bool, e = .returned (.bool r)

theorem ret_bool {a b : Bool} (h : a = b) : Ending.returned (.bool a) = .returned (.bool b) := by rw [h]

theorem cont_true {ss : List ByteArray} {x s : ByteArray} {k : Nat} (hk : k < ss.length) (h : ss.getD k ByteArray.empty = s) (he : (s.toList == x.toList) = true) : true = Lib.containsS ss x := by
  symm
  rw [Lib.containsS_iff]
  rw [Lib.bytes_beq_iff] at he
  rw [← he, ← h, List.getD_eq_getElem?_getD, List.getElem?_eq_getElem hk]
  simp

theorem cont_false {ss : List ByteArray} {x : ByteArray} (h : ∀ j, j < ss.length → ss.getD j ByteArray.empty ≠ x) : false = Lib.containsS ss x := by
  symm
  rw [← Bool.not_eq_true, Lib.containsS_iff]
  intro hm
  obtain ⟨j, hj, e⟩ := List.getElem_of_mem hm
  have := h j hj
  rw [List.getD_eq_getElem?_getD, List.getElem?_eq_getElem hj] at this
  exact this (by simpa using e)

set_option maxHeartbeats 400000 in
theorem holds_row (b off n c : Nat) (ss : List ByteArray) (x : ByteArray) (w : World) (hn : ss.length = n) (hb : n ≤ 9223372036854775807)
    (hc : ∀ i, i < n → w.cell? ⟨b, off + i, none⟩ = some (.string (ss.getD i ByteArray.empty))) :
    Calls Try.prog 8 #[.slice (some ⟨b, off, none⟩) n c, .string x] w fun e w' => e = .returned (.bool (Lib.containsS ss x)) ∧ w' = w := by
  go_enter Try.func8, Try.ntmps8
  go_wp2
  go_loop [5] (fun i => ∃ k : Nat, k ≤ n ∧ i = .int .i64 k ∧ ∀ j, j < k → ss.getD j ByteArray.empty ≠ x) (fun i => n - (intOf i).toNat)
  case atStart => exact ⟨0, by omega, rfl, fun j hj => by omega⟩
  case round =>
    obtain ⟨k, hk, rfl, hne⟩ := hrel
    have HN : Hid (∀ j, j < k → ss.getD j ByteArray.empty ≠ x) := hne
    have HL : Hid (ss.length = n) := hn
    clear hne hn
    by_cases hlt : k < n
    · have hcell := hc k hlt
      generalize hs : ss.getD k ByteArray.empty = s at hcell
      have HS : Hid (ss.getD k ByteArray.empty = s) := hs
      clear hs hc
      by_cases he : (s.toList == x.toList) = true
      · go_wp2
        go_ret
        exact ⟨ret_bool (cont_true (by rw [HL.out]; exact hlt) HS.out he), rfl⟩
      · have he' : (s.toList == x.toList) = false := by simpa using he
        clear he
        go_wp2
        go_round
        case rel =>
          refine ⟨k + 1, by omega, by go_num, fun j hj => ?_⟩
          rcases Nat.lt_succ_iff_lt_or_eq.1 hj with h | rfl
          · exact HN.out j h
          · rw [HS.out]; exact (Lib.bytes_beq_false_iff s x).1 he'
        case measure => simp [intOf]; omega
    · go_wp2
      go_ret
      exact ⟨ret_bool (cont_false (fun j hj => HN.out j (by rw [HL.out] at hj; omega))), rfl⟩

theorem holds_empty (a : Option Addr) (c : Nat) (x : ByteArray) (w : World) :
    Calls Try.prog 8 #[.slice a 0 c, .string x] w fun e w' => e = .returned (.bool (Lib.containsS [] x)) ∧ w' = w := by
  go_enter Try.func8, Try.ntmps8
  go_wp2
  refine wp_loop_rounds 1 ?_
  rw [rounds_succ]
  go_wp2
  go_ret
  exact ⟨rfl, rfl⟩

/-- holdsString -/
theorem holds (v : Value) (ss : List ByteArray) (x : ByteArray) (w : World) (h : SH w v ss) :
    Calls Try.prog 8 #[v, .string x] w fun e w' => e = .returned (.bool (Lib.containsS ss x)) ∧ w' = w := by
  obtain ⟨hl, ⟨rfl, a, c, rfl⟩ | ⟨b, off, c, rfl, hc⟩⟩ := h
  · exact holds_empty a c x w
  · exact holds_row b off ss.length c ss x w rfl hl hc

set_option maxHeartbeats 400000 in
theorem contains_row (b off n c : Nat) (ss : List ByteArray) (x : ByteArray) (w : World) (hn : ss.length = n) (hb : n ≤ 9223372036854775807)
    (hc : ∀ i, i < n → w.cell? ⟨b, off + i, none⟩ = some (.string (ss.getD i ByteArray.empty))) :
    Calls Try.prog 12 #[.slice (some ⟨b, off, none⟩) n c, .string x] w fun e w' => e = .returned (.bool (Lib.containsS ss x)) ∧ w' = w := by
  go_enter Try.func12, Try.ntmps12
  go_wp2
  go_loop [9] (fun i => ∃ k : Nat, k ≤ n ∧ i = .int .i64 k ∧ ∀ j, j < k → ss.getD j ByteArray.empty ≠ x) (fun i => n - (intOf i).toNat)
  case atStart => exact ⟨0, by omega, rfl, fun j hj => by omega⟩
  case round =>
    obtain ⟨k, hk, rfl, hne⟩ := hrel
    have HN : Hid (∀ j, j < k → ss.getD j ByteArray.empty ≠ x) := hne
    have HL : Hid (ss.length = n) := hn
    clear hne hn
    by_cases hlt : k < n
    · have hcell := hc k hlt
      generalize hs : ss.getD k ByteArray.empty = s at hcell
      have HS : Hid (ss.getD k ByteArray.empty = s) := hs
      clear hs hc
      by_cases he : (s.toList == x.toList) = true
      · go_wp2
        go_ret
        exact ⟨ret_bool (cont_true (by rw [HL.out]; exact hlt) HS.out he), rfl⟩
      · have he' : (s.toList == x.toList) = false := by simpa using he
        clear he
        go_wp2
        go_round
        case rel =>
          refine ⟨k + 1, by omega, by go_num, fun j hj => ?_⟩
          rcases Nat.lt_succ_iff_lt_or_eq.1 hj with h | rfl
          · exact HN.out j h
          · rw [HS.out]; exact (Lib.bytes_beq_false_iff s x).1 he'
        case measure => simp [intOf]; omega
    · go_wp2
      go_ret
      exact ⟨ret_bool (cont_false (fun j hj => HN.out j (by rw [HL.out] at hj; omega))), rfl⟩

theorem contains_empty (a : Option Addr) (c : Nat) (x : ByteArray) (w : World) :
    Calls Try.prog 12 #[.slice a 0 c, .string x] w fun e w' => e = .returned (.bool (Lib.containsS [] x)) ∧ w' = w := by
  go_enter Try.func12, Try.ntmps12
  go_wp2
  refine wp_loop_rounds 1 ?_
  rw [rounds_succ]
  go_wp2
  go_ret
  exact ⟨rfl, rfl⟩

/-- contains -/
theorem contains (v : Value) (ss : List ByteArray) (x : ByteArray) (w : World) (h : SH w v ss) :
    Calls Try.prog 12 #[v, .string x] w fun e w' => e = .returned (.bool (Lib.containsS ss x)) ∧ w' = w := by
  obtain ⟨hl, ⟨rfl, a, c, rfl⟩ | ⟨b, off, c, rfl, hc⟩⟩ := h
  · exact contains_empty a c x w
  · exact contains_row b off ss.length c ss x w rfl hl hc

end Go.Proofs.Qxb6609488a
