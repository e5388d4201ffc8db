/-
  Slices of strings in memory, and the contracts of the law's read-only helpers.
-/
import Derived.Test.Qxb6612939aProg
import Derived.WalkKit
import Derived.ProofKit
import Derived.Below
import Derived.Lib.SlicesS
import Derived.Deep.QuietTactic
import Derived.BigQuiet
namespace Go.Proofs.Qxb6612939a
open Go.RowKit

/-- A []string value that leads to the strings ss. -/
def SH (w : World) (v : Value) (ss : List ByteArray) : Prop :=
  ss.length ≤ 9223372036854775807 ∧ ((ss = [] ∧ ∃ a c, v = .slice a 0 c) ∨
  ∃ b off c, v = .slice (some ⟨b, off, none⟩) ss.length c ∧ ∀ i, i < ss.length → w.cell? ⟨b, off + i, none⟩ = some (.string (ss.getD i ByteArray.empty)))

/-- The call hands back some bool. -/
def AnyBool (e : Ending) : Prop := ∃ r : Bool, e = .returned (.bool r)

theorem ret_bool {a b : Bool} (h : a = b) : Ending.returned (.bool a) = .returned (.bool b) := by rw [h]

theorem cont_true {ss : List ByteArray} {x s : ByteArray} {k : Nat} (hk : k < ss.length) (h : ss.getD k ByteArray.empty = s) (he : (s.toList == x.toList) = true) : true = Lib.containsS ss x := by
  symm
  rw [Lib.containsS_iff]
  rw [Lib.bytes_beq_iff] at he
  rw [← he, ← h, List.getD_eq_getElem?_getD, List.getElem?_eq_getElem hk]
  simp

theorem cont_false {ss : List ByteArray} {x : ByteArray} (h : ∀ j, j < ss.length → ss.getD j ByteArray.empty ≠ x) : false = Lib.containsS ss x := by
  symm
  rw [← Bool.not_eq_true, Lib.containsS_iff]
  intro hm
  obtain ⟨j, hj, e⟩ := List.getElem_of_mem hm
  have := h j hj
  rw [List.getD_eq_getElem?_getD, List.getElem?_eq_getElem hj] at this
  exact this (by simpa using e)

set_option maxHeartbeats 400000 in
theorem hasStr_row (b off n c : Nat) (ss : List ByteArray) (x : ByteArray) (w : World) (hn : ss.length = n) (hb : n ≤ 9223372036854775807)
    (hc : ∀ i, i < n → w.cell? ⟨b, off + i, none⟩ = some (.string (ss.getD i ByteArray.empty))) :
    Calls Try.prog 9 #[.slice (some ⟨b, off, none⟩) n c, .string x] w fun e w' => e = .returned (.bool (Lib.containsS ss x)) ∧ w' = w := by
  go_enter Try.func9, Try.ntmps9
  go_wp2
  go_loop [5] (fun i => ∃ k : Nat, k ≤ n ∧ i = .int .i64 k ∧ ∀ j, j < k → ss.getD j ByteArray.empty ≠ x) (fun i => n - (intOf i).toNat)
  case atStart => exact ⟨0, by omega, rfl, fun j hj => by omega⟩
  case round =>
    obtain ⟨k, hk, rfl, hne⟩ := hrel
    have HN : Hid (∀ j, j < k → ss.getD j ByteArray.empty ≠ x) := hne
    have HL : Hid (ss.length = n) := hn
    clear hne hn
    by_cases hlt : k < n
    · have hcell := hc k hlt
      generalize hs : ss.getD k ByteArray.empty = s at hcell
      have HS : Hid (ss.getD k ByteArray.empty = s) := hs
      clear hs hc
      by_cases he : (s.toList == x.toList) = true
      · go_wp2
        go_ret
        exact ⟨ret_bool (cont_true (by rw [HL.out]; exact hlt) HS.out he), rfl⟩
      · have he' : (s.toList == x.toList) = false := by simpa using he
        clear he
        go_wp2
        go_round
        case rel =>
          refine ⟨k + 1, by omega, by go_num, fun j hj => ?_⟩
          rcases Nat.lt_succ_iff_lt_or_eq.1 hj with h | rfl
          · exact HN.out j h
          · rw [HS.out]; exact (Lib.bytes_beq_false_iff s x).1 he'
        case measure => simp [intOf]; omega
    · go_wp2
      go_ret
      exact ⟨ret_bool (cont_false (fun j hj => HN.out j (by rw [HL.out] at hj; omega))), rfl⟩

theorem hasStr_empty (a : Option Addr) (c : Nat) (x : ByteArray) (w : World) :
    Calls Try.prog 9 #[.slice a 0 c, .string x] w fun e w' => e = .returned (.bool (Lib.containsS [] x)) ∧ w' = w := by
  go_enter Try.func9, Try.ntmps9
  go_wp2
  refine wp_loop_rounds 1 ?_
  rw [rounds_succ]
  go_wp2
  go_ret
  exact ⟨rfl, rfl⟩

/-- zzHasStr -/
theorem hasStr (v : Value) (ss : List ByteArray) (x : ByteArray) (w : World) (h : SH w v ss) :
    Calls Try.prog 9 #[v, .string x] w fun e w' => e = .returned (.bool (Lib.containsS ss x)) ∧ w' = w := by
  obtain ⟨hl, ⟨rfl, a, c, rfl⟩ | ⟨b, off, c, rfl, hc⟩⟩ := h
  · exact hasStr_empty a c x w
  · exact hasStr_row b off ss.length c ss x w rfl hl hc

/-! slices.Index, slices.Contains -/
set_option maxHeartbeats 400000 in
theorem index_row (b off n c : Nat) (ss : List ByteArray) (x : ByteArray) (w : World) (hn : ss.length = n) (hb : n ≤ 9223372036854775807)
    (hc : ∀ i, i < n → w.cell? ⟨b, off + i, none⟩ = some (.string (ss.getD i ByteArray.empty))) :
    Calls Try.prog 30 #[.slice (some ⟨b, off, none⟩) n c, .string x] w fun e w' => (∃ r : Int, e = .returned (.int .i64 r) ∧ decide (0 ≤ r) = Lib.containsS ss x) ∧ w' = w := by
  go_enter Try.func30, Try.ntmps30
  go_wp2
  go_loop [8] (fun i => ∃ k : Nat, k ≤ n ∧ i = .int .i64 k ∧ ∀ j, j < k → ss.getD j ByteArray.empty ≠ x) (fun i => n - (intOf i).toNat)
  case atStart => exact ⟨0, by omega, rfl, fun j hj => by omega⟩
  case round =>
    obtain ⟨k, hk, rfl, hne⟩ := hrel
    have HN : Hid (∀ j, j < k → ss.getD j ByteArray.empty ≠ x) := hne
    have HL : Hid (ss.length = n) := hn
    clear hne hn
    by_cases hlt : k < n
    · have hcell := hc k hlt
      generalize hs : ss.getD k ByteArray.empty = s at hcell
      have HS : Hid (ss.getD k ByteArray.empty = s) := hs
      clear hs hc
      by_cases he : (x.toList == s.toList) = true
      · go_wp2
        go_ret
        exact ⟨⟨k, rfl, by rw [decide_eq_true (by omega)]; exact cont_true (by rw [HL.out]; exact hlt) HS.out (by rw [Lib.bytes_beq_iff] at he ⊢; exact he.symm)⟩, rfl⟩
      · have he' : (x.toList == s.toList) = false := by simpa using he
        clear he
        go_wp2
        go_round
        case rel =>
          refine ⟨k + 1, by omega, by go_num, fun j hj => ?_⟩
          rcases Nat.lt_succ_iff_lt_or_eq.1 hj with h | rfl
          · exact HN.out j h
          · rw [HS.out]; exact fun e => (Lib.bytes_beq_false_iff x s).1 he' e.symm
        case measure => simp [intOf]; omega
    · go_wp2
      go_ret
      exact ⟨⟨-1, rfl, by rw [decide_eq_false (by omega)]; exact cont_false (fun j hj => HN.out j (by rw [HL.out] at hj; omega))⟩, rfl⟩

theorem index_empty (a : Option Addr) (c : Nat) (x : ByteArray) (w : World) :
    Calls Try.prog 30 #[.slice a 0 c, .string x] w fun e w' => (∃ r : Int, e = .returned (.int .i64 r) ∧ decide (0 ≤ r) = Lib.containsS [] x) ∧ w' = w := by
  go_enter Try.func30, Try.ntmps30
  go_wp2
  refine wp_loop_rounds 1 ?_
  rw [rounds_succ]
  go_wp2
  go_ret
  exact ⟨⟨-1, rfl, rfl⟩, rfl⟩

theorem index (v : Value) (ss : List ByteArray) (x : ByteArray) (w : World) (h : SH w v ss) :
    Calls Try.prog 30 #[v, .string x] w fun e w' => (∃ r : Int, e = .returned (.int .i64 r) ∧ decide (0 ≤ r) = Lib.containsS ss x) ∧ w' = w := by
  obtain ⟨hl, ⟨rfl, a, c, rfl⟩ | ⟨b, off, c, rfl, hc⟩⟩ := h
  · exact index_empty a c x w
  · exact index_row b off ss.length c ss x w rfl hl hc

theorem contains (v : Value) (ss : List ByteArray) (x : ByteArray) (w : World) (h : SH w v ss) :
    Calls Try.prog 24 #[v, .string x] w fun e w' => e = .returned (.bool (Lib.containsS ss x)) ∧ w' = w := by
  go_enter Try.func24, Try.ntmps24
  go_wp2_with (go_at_call 30; refine (index v ss x _ h).mono ?_; rintro e w' ⟨⟨r, rfl, hr⟩, rfl⟩; have HR := (show Hid _ from hr); clear hr)
  go_ret
  exact ⟨ret_bool HR.out, rfl⟩

/-! zzEqStrs -/
set_option maxHeartbeats 1000000 in
theorem eqStrs_rows (b off c b' off' c' n : Nat) (ss ss' : List ByteArray) (w : World) (hn : ss.length = n) (hn' : ss'.length = n) (hb : n ≤ 9223372036854775807)
    (hc : ∀ i, i < n → w.cell? ⟨b, off + i, none⟩ = some (.string (ss.getD i ByteArray.empty)))
    (hc' : ∀ i, i < n → w.cell? ⟨b', off' + i, none⟩ = some (.string (ss'.getD i ByteArray.empty))) :
    Calls Try.prog 15 #[.slice (some ⟨b, off, none⟩) n c, .slice (some ⟨b', off', none⟩) n c'] w fun e w' => e = .returned (.bool (decide (ss = ss'))) ∧ ∃ q, w' = w.drewN q := by
  go_enter Try.func15, Try.ntmps15
  go_wp2
  go_loopw [5] (fun i wr => ∃ k q : Nat, k ≤ n ∧ i = .int .i64 k ∧ wr = w.drewN q ∧ ∀ j, j < k → ss.getD j ByteArray.empty = ss'.getD j ByteArray.empty) (fun i _ => n - (intOf i).toNat)
  case atStart => exact ⟨0, 0, by omega, rfl, rfl, fun j hj => by omega⟩
  case round =>
    obtain ⟨k, q, hk, rfl, rfl, hne⟩ := hrel
    have HN : Hid (∀ j, j < k → ss.getD j ByteArray.empty = ss'.getD j ByteArray.empty) := hne
    have HL : Hid (ss.length = n) := hn
    have HL' : Hid (ss'.length = n) := hn'
    clear hne hn hn'
    by_cases hlt : k < n
    · have hcell := hc k hlt
      have hcell' := hc' k hlt
      generalize hs : ss.getD k ByteArray.empty = s at hcell
      generalize hs' : ss'.getD k ByteArray.empty = s' at hcell'
      have HS : Hid (ss.getD k ByteArray.empty = s) := hs
      have HS' : Hid (ss'.getD k ByteArray.empty = s') := hs'
      clear hs hs' hc hc'
      by_cases he : (s.toList == s'.toList) = true
      · go_wp2
        go_quiet (fail)
        go_wp2
        go_roundw
        case rel =>
          refine ⟨k + 1, q + nq, by omega, by go_num, rfl, fun j hj => ?_⟩
          rcases Nat.lt_succ_iff_lt_or_eq.1 hj with h | rfl
          · exact HN.out j h
          · rw [HS.out, HS'.out]; exact (Lib.bytes_beq_iff s s').1 he
        case measure => simp [intOf]; omega
      · have he' : (s.toList == s'.toList) = false := by simpa using he
        clear he
        go_wp2
        go_quiet (fail)
        go_wp2
        go_ret
        refine ⟨ret_bool ?_, q + nq, World.drewN_drewN _ _ _⟩
        symm
        rw [decide_eq_false_iff_not]
        intro e
        rw [e] at HS
        exact (Lib.bytes_beq_false_iff s s').1 he' (HS.out.symm.trans HS'.out)
    · go_wp2
      go_ret
      refine ⟨ret_bool ?_, q, rfl⟩
      symm
      rw [decide_eq_true_iff]
      refine List.ext_getElem (by rw [HL.out, HL'.out]) fun i h1 h2 => ?_
      have := HN.out i (by rw [HL.out] at h1; omega)
      simpa [List.getD_eq_getElem?_getD, List.getElem?_eq_getElem h1, List.getElem?_eq_getElem h2] using this

theorem eqStrs_len (a a' : Option Addr) (n c n' c' : Nat) (w : World) (h : n ≠ n') :
    Calls Try.prog 15 #[.slice a n c, .slice a' n' c'] w fun e w' => e = .returned (.bool false) ∧ w' = w := by
  have h' : ((n : Int) != (n' : Int)) = true := by simp; omega
  go_enter Try.func15, Try.ntmps15
  go_wp2
  go_ret
  exact ⟨rfl, rfl⟩

theorem eqStrs_empty (a a' : Option Addr) (c c' : Nat) (w : World) :
    Calls Try.prog 15 #[.slice a 0 c, .slice a' 0 c'] w fun e w' => e = .returned (.bool true) ∧ w' = w := by
  go_enter Try.func15, Try.ntmps15
  go_wp2
  refine wp_loop_rounds 1 ?_
  rw [rounds_succ]
  go_wp2
  go_ret
  exact ⟨rfl, rfl⟩

theorem SH.shape {w : World} {v : Value} {ss : List ByteArray} (h : SH w v ss) : ∃ a c, v = .slice a ss.length c := by
  obtain ⟨hl, ⟨rfl, a, c, rfl⟩ | ⟨b, off, c, rfl, hc⟩⟩ := h
  · exact ⟨a, c, rfl⟩
  · exact ⟨_, c, rfl⟩

/-- zzEqStrs -/
theorem eqStrs (v v' : Value) (ss ss' : List ByteArray) (w : World) (h : SH w v ss) (h' : SH w v' ss') :
    Calls Try.prog 15 #[v, v'] w fun e w' => e = .returned (.bool (decide (ss = ss'))) ∧ ∃ q, w' = w.drewN q := by
  by_cases hl : ss.length = ss'.length
  · obtain ⟨hb, ⟨rfl, a, c, rfl⟩ | ⟨b, off, c, rfl, hc⟩⟩ := h
    · have e' : ss' = [] := List.length_eq_zero_iff.1 hl.symm
      subst e'
      obtain ⟨a', c', rfl⟩ := h'.shape
      exact (eqStrs_empty a a' c c' w).mono fun e w' ⟨he, hw⟩ => ⟨he.trans (ret_bool (by simp)), 0, hw⟩
    · obtain ⟨hb', ⟨rfl, a', c', rfl⟩ | ⟨b', off', c', rfl, hc'⟩⟩ := h'
      · have e' : ss = [] := List.length_eq_zero_iff.1 hl
        subst e'
        exact (eqStrs_empty _ a' c c' w).mono fun e w' ⟨he, hw⟩ => ⟨he.trans (ret_bool (by simp)), 0, hw⟩
      · have := eqStrs_rows b off c b' off' c' ss.length ss ss' w rfl hl.symm hb hc (by rw [hl]; exact hc')
        rw [← hl]
        exact this
  · obtain ⟨a, c, rfl⟩ := h.shape
    obtain ⟨a', c', rfl⟩ := h'.shape
    exact (eqStrs_len a a' _ c _ c' w hl).mono fun e w' ⟨he, hw⟩ => ⟨he.trans (ret_bool (by symm; rw [decide_eq_false_iff_not]; intro e; exact hl (by rw [e]))), 0, hw⟩

/-! zzStrsBytes: it returns some number; nothing turns -/
set_option maxHeartbeats 400000 in
theorem strsBytes_row (at0 : Int) (b off n c : Nat) (ss : List ByteArray) (w : World) (hb : n ≤ 9223372036854775807)
    (hc : ∀ i, i < n → w.cell? ⟨b, off + i, none⟩ = some (.string (ss.getD i ByteArray.empty))) :
    Calls Try.prog 8 #[.int .i64 at0, .slice (some ⟨b, off, none⟩) n c] w fun e w' => (∃ r : Int, e = .returned (.int .i64 r)) ∧ w' = w := by
  go_enter Try.func8, Try.ntmps8
  go_wp2
  · go_ret
    exact ⟨⟨_, rfl⟩, rfl⟩
  · go_loop [0, 5] (fun t i => ∃ (k : Nat) (r : Int), k ≤ n ∧ i = .int .i64 k ∧ t = .int .i64 r) (fun _ i => n - (intOf i).toNat)
    case atStart => exact ⟨0, _, by omega, rfl, rfl⟩
    case round =>
      obtain ⟨k, r, hk, rfl, rfl⟩ := hrel
      by_cases hlt : k < n
      · have hcell := hc k hlt
        generalize ss.getD k ByteArray.empty = s at hcell
        clear hc
        go_wp2
        · go_ret
          exact ⟨⟨_, rfl⟩, rfl⟩
        · go_round
          case rel => exact ⟨k + 1, _, by omega, by go_num, rfl⟩
          case measure => simp [intOf]; omega
      · go_wp2
        go_ret
        exact ⟨⟨_, rfl⟩, rfl⟩

set_option maxHeartbeats 400000 in
theorem strsBytes_empty (at0 : Int) (a : Option Addr) (c : Nat) (w : World) :
    Calls Try.prog 8 #[.int .i64 at0, .slice a 0 c] w fun e w' => (∃ r : Int, e = .returned (.int .i64 r)) ∧ w' = w := by
  go_enter Try.func8, Try.ntmps8
  go_wp2
  · go_ret
    exact ⟨⟨_, rfl⟩, rfl⟩
  · refine wp_loop_rounds 1 ?_
    rw [rounds_succ]
    go_wp2
    go_ret
    exact ⟨⟨_, rfl⟩, rfl⟩

/-- zzStrsBytes -/
theorem strsBytes (at0 : Int) (v : Value) (ss : List ByteArray) (w : World) (h : SH w v ss) :
    Calls Try.prog 8 #[.int .i64 at0, v] w fun e w' => (∃ r : Int, e = .returned (.int .i64 r)) ∧ w' = w := by
  obtain ⟨hl, ⟨rfl, a, c, rfl⟩ | ⟨b, off, c, rfl, hc⟩⟩ := h
  · exact strsBytes_empty at0 a c w
  · exact strsBytes_row at0 b off ss.length c ss w hl hc

theorem SH.gen {w : World} {v : Value} {ss : List ByteArray} (h : SH w v ss) : ∃ a c, v = .slice a ss.length c ∧ ss.length ≤ 9223372036854775807 ∧
    ∀ i, i < ss.length → ∃ b off, a = some ⟨b, off, none⟩ ∧ w.cell? ⟨b, off + i, none⟩ = some (.string (ss.getD i ByteArray.empty)) := by
  obtain ⟨hl, ⟨rfl, a, c, rfl⟩ | ⟨b, off, c, rfl, hc⟩⟩ := h
  · exact ⟨a, c, rfl, hl, fun i hi => by simp at hi⟩
  · exact ⟨_, c, rfl, hl, fun i hi => ⟨b, off, rfl, hc i hi⟩⟩

set_option maxHeartbeats 1000000 in
/-- zzBytes_FnWithoutIdempotent: it returns some bool; nothing turns -/
theorem bytes2 (l : ByteArray) (v1 v2 : Value) (s1 s2 : List ByteArray) (w : World) (h1 : SH w v1 s1) (h2 : SH w v2 s2) :
    Calls Try.prog 16 #[.string l, v1, v2] w fun e w' => AnyBool e ∧ w' = w := by
  obtain ⟨a1, c1, rfl, hb1, hc1⟩ := h1.gen
  obtain ⟨a2, c2, rfl, hb2, hc2⟩ := h2.gen
  clear h1 h2
  generalize s1.length = n1 at hb1 hc1 ⊢
  generalize s2.length = n2 at hb2 hc2 ⊢
  go_enter Try.func16, Try.ntmps16
  go_wp2
  all_goals first | (go_ret; exact ⟨⟨_, rfl⟩, rfl⟩) | skip
  go_loop [7, 8] (fun t i => ∃ (k : Nat) (r : Int), k ≤ n1 ∧ i = .int .i64 k ∧ t = .int .i64 r) (fun _ i => n1 - (intOf i).toNat)
  case atStart => exact ⟨0, _, by omega, rfl, rfl⟩
  case round =>
    obtain ⟨k, r, hk, rfl, rfl⟩ := hrel
    by_cases hlt : k < n1
    · obtain ⟨b, off, rfl, hcell⟩ := hc1 k hlt
      generalize s1.getD k ByteArray.empty = s at hcell
      clear hc1 hc2
      go_wp2
      all_goals first | (go_ret; exact ⟨⟨_, rfl⟩, rfl⟩) | skip
      go_round
      case rel => exact ⟨k + 1, _, by omega, by go_num, rfl⟩
      case measure => simp [intOf]; omega
    · go_wp2
      all_goals first | (go_ret; exact ⟨⟨_, rfl⟩, rfl⟩) | skip
      go_loop [7, 9] (fun t i => ∃ (k : Nat) (r : Int), k ≤ n2 ∧ i = .int .i64 k ∧ t = .int .i64 r) (fun _ i => n2 - (intOf i).toNat)
      case atStart => exact ⟨0, _, by omega, rfl, rfl⟩
      case round =>
        obtain ⟨k2, r2, hk2, rfl, rfl⟩ := hrel
        by_cases hlt2 : k2 < n2
        · obtain ⟨b, off, rfl, hcell⟩ := hc2 k2 hlt2
          generalize s2.getD k2 ByteArray.empty = s at hcell
          clear hc1 hc2
          go_wp2
          all_goals first | (go_ret; exact ⟨⟨_, rfl⟩, rfl⟩) | skip
          go_round
          case rel => exact ⟨k2 + 1, _, by omega, by go_num, rfl⟩
          case measure => simp [intOf]; omega
        · go_wp2
          go_ret
          exact ⟨⟨_, rfl⟩, rfl⟩

end Go.Proofs.Qxb6612939a
