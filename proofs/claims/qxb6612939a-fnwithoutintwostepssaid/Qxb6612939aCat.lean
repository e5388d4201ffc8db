/-
  zzCat; zzCloneStrs with a word on nil; the byte count of three slices.
-/
import Derived.Test.Qxb6612939aZZ
namespace Go.Proofs.Qxb6612939a
open Go.RowKit

set_option maxHeartbeats 1000000 in
/-- zzCloneStrs, once more: a nil result has no capacity -/
theorem cloneZ (v : Value) (ss : List ByteArray) (w : World) (h : SH w v ss) (hl : ss.length ≤ 131072) :
    Calls Try.prog 10 #[v] w fun e w' => ∃ v', e = .returned v' ∧ SH w' v' ss ∧ Below w.heap.size w w' ∧ ∀ n c, v' = .slice none n c → c = 0 := by
  obtain ⟨a, c, rfl, hb, hc⟩ := h.gen
  have hnil := fun W => Lib.run_eql_slice_nil (P := Try.prog) W 22 9 a ss.length c 0 0 Try.underlying22
  obtain ⟨i0, hi, hz0, hz1, hz2⟩ := info_parts info9
  cases a with
  | none =>
    have e : ss = [] := by
      cases ss with
      | nil => rfl
      | cons x xs => obtain ⟨_, _, hh, _⟩ := hc 0 (by simp); cases hh
    subst e
    clear hc hi hz0 hz1 hz2 hb hl h
    simp only [List.length_nil] at hnil ⊢
    go_enter Try.func10, Try.ntmps10
    go_wp2
    go_ret
    exact ⟨.slice none 0 0, rfl, ⟨by simp, .inl ⟨rfl, none, 0, rfl⟩⟩, Below.refl _ _, fun n c e => by cases e; rfl⟩
  | some ad =>
    generalize hn : ss.length = n at *
    have HL : Hid (ss.length = n) := hn
    clear hn h
    go_enter Try.func10, Try.ntmps10
    go_wp2_with (at_make; refine wpList_make_full _ rfl _ _ 22 rfl w.heap.size 9 i0 (.string ByteArray.empty) 1 Try.underlying22 hi hz0 hz1 _ _ _ _ n rfl rfl rfl rfl (by rw [hz2]; omega) (by unfold maxLen; omega) (Nat.le_refl _) ?_; intro w1 hown hgr)
    have hown0 : w1.ownsRow w.heap.size 9 1 (.slice (some ⟨w.heap.size, 0, none⟩) n n) n (cloneTo ss 0) := by
      rw [Nat.mul_one] at hown; rw [cloneTo_zero, HL.out, ← toList_madeCells_one]; exact hown
    have hbel : Below w.heap.size w w1 := (Below.refl _ _).grown hgr (Nat.le_refl _) (fun k hk => by cases hk)
    clear hown hgr hnil hi hz0 hz1 hz2
    go_loopw [4] (fun i wr => ∃ k : Nat, k ≤ n ∧ i = .int .i64 k ∧ wr.ownsRow w.heap.size 9 1 (.slice (some ⟨w.heap.size, 0, none⟩) n n) n (cloneTo ss k) ∧ Below w.heap.size w wr) (fun i _ => n - (intOf i).toNat)
    case atStart => exact ⟨0, by omega, rfl, hown0, hbel⟩
    case round =>
      obtain ⟨k, hk, rfl, hown, hbl⟩ := hrel
      by_cases hlt : k < n
      · obtain ⟨b, off, e, hcell⟩ := hc k hlt
        cases e
        have hcl : wr.cell? ⟨b, off + k, none⟩ = some (.string (ss.getD k ByteArray.empty)) := by
          rw [hbl.cell (World.block_lt_of_cell? w _ hcell)]; exact hcell
        have hcd : wr.cell? ⟨w.heap.size, k, none⟩ = some (.string ByteArray.empty) := by
          rw [hown.cellAt k (by omega), cloneTo_at ss k (by rw [HL.out]; exact hlt)]
        have hfz : wr.frozen? ⟨w.heap.size, k, none⟩ = false := hown.frozenAt k
        have hst := (hown.stored k (.string (ss.getD k ByteArray.empty))).1
        rw [cloneTo_step ss k (by rw [HL.out]; exact hlt)] at hst
        generalize hs : ss.getD k ByteArray.empty = s at hcl hst
        have hbl2 := hbl.setCell (p := ⟨w.heap.size, k, none⟩) (Nat.le_refl _) (.string s)
        clear hs hc hcell hown hbl hown0 hbel
        go_wp2
        go_roundw
        case rel => exact ⟨k + 1, by omega, by go_num, hst, hbl2⟩
        case measure => simp [intOf]; omega
      · have : k = n := by omega
        subst this
        go_wp2
        go_ret
        rw [← HL.out, cloneTo_full, HL.out] at hown
        exact ⟨_, rfl, SH.of_owns hown HL.out.symm (by rw [HL.out]; exact hb), hbl, fun n c e => by cases e⟩

theorem strs_oneCell (ss : List ByteArray) : ∀ u ∈ ss.map Value.string, u.oneCell' = true := by
  intro u hu
  obtain ⟨_, _, rfl⟩ := List.mem_map.1 hu
  rfl

/-- The cells that 'append(out, v...)' takes over. -/
theorem cells_of {w : World} {a : Option Addr} {ss : List ByteArray} (h : ∀ i, i < ss.length → ∃ b off, a = some ⟨b, off, none⟩ ∧ w.cell? ⟨b, off + i, none⟩ = some (.string (ss.getD i ByteArray.empty))) :
    ∀ ad, a = some ad → ∀ j u, (ss.map Value.string)[j]? = some u → w.cell? (ad.add j) = some u := by
  intro ad had j u hu
  have hj : j < ss.length := by have := (List.getElem?_eq_some_iff.1 hu).1; simpa using this
  obtain ⟨b, off, e, hc⟩ := h j hj
  rw [had] at e
  cases e
  rw [Go.WideShapes.add_plain, hc]
  rw [List.getElem?_map, List.getElem?_eq_getElem hj] at hu
  simp at hu
  rw [← hu]
  simp [hj]

set_option maxHeartbeats 1000000 in
/-- zzCat -/
theorem cat (v1 v2 : Value) (s1 s2 : List ByteArray) (w : World) (h1 : SH w v1 s1) (h2 : SH w v2 s2) (hl1 : s1.length ≤ 65536) (hl2 : s2.length ≤ 65536)
    (hz1 : ∀ n c, v1 = .slice none n c → c = 0) (hz2 : ∀ n c, v2 = .slice none n c → c = 0) :
    Calls Try.prog 11 #[v1, v2] w fun e w' => ∃ v', e = .returned v' ∧ SH w' v' (s1 ++ s2) ∧ Below w.heap.size w w' := by
  obtain ⟨a1, c1, rfl, hb1, hc1⟩ := h1.gen
  obtain ⟨a2, c2, rfl, hb2, hc2⟩ := h2.gen
  have hn1 : a1 = none → s1.length = 0 ∧ c1 = 0 := fun e => by
    subst e
    refine ⟨?_, hz1 _ _ rfl⟩
    rcases Nat.eq_zero_or_pos s1.length with h | h
    · exact h
    · obtain ⟨_, _, e, _⟩ := hc1 0 h; cases e
  have hn2 : a2 = none → s2.length = 0 ∧ c2 = 0 := fun e => by
    subst e
    refine ⟨?_, hz2 _ _ rfl⟩
    rcases Nat.eq_zero_or_pos s2.length with h | h
    · exact h
    · obtain ⟨_, _, e, _⟩ := hc2 0 h; cases e
  obtain ⟨i0, hi, hz0, hzs1, hzb2⟩ := info_parts info9
  have ce : ∀ (a : Option Addr) (ss : List ByteArray) (n : Nat), ss.length = n → (∀ i, i < n → ∃ b off, a = some ⟨b, off, none⟩ ∧ w.cell? ⟨b, off + i, none⟩ = some (.string (ss.getD i ByteArray.empty))) → ∀ W, Below w.heap.size w W →
      ∀ ad, a = some ad → ∀ j u, (ss.map Value.string)[j]? = some u → W.cell? (ad.add j) = some u := fun a ss n hn h W hW => cells_of fun i hi => by
    obtain ⟨b, off, e, hc⟩ := h i (by omega)
    exact ⟨b, off, e, by rw [hW.cell (World.block_lt_of_cell? w _ hc)]; exact hc⟩
  generalize hg1 : s1.length = n1 at *
  generalize hg2 : s2.length = n2 at *
  have hC1 : Hid _ := ce a1 s1 n1 hg1 hc1
  have hC2 : Hid _ := ce a2 s2 n2 hg2 hc2
  have hN1 : Hid (a1 = none → n1 = 0 ∧ c1 = 0) := hn1
  have hN2 : Hid (a2 = none → n2 = 0 ∧ c2 = 0) := hn2
  have G1 : Hid (s1.length = n1) := hg1
  have G2 : Hid (s2.length = n2) := hg2
  clear hg1 hg2 hc1 hc2 hn1 hn2 hz1 hz2 h1 h2 ce
  go_enter Try.func11, Try.ntmps11
  go_wp2_with (first
    | (at_make; refine wpList_make_own _ rfl _ _ 22 rfl w.heap.size 9 i0 (.string ByteArray.empty) 1 Try.underlying22 hi hz0 hzs1 _ _ _ (n1 + n2) rfl rfl (by omega) (by rw [hzb2]; omega) (by unfold maxLen; omega) (Nat.le_refl _) ?_; intro w1 hown hgr; have hbl1 : Below w.heap.size w w1 := (Below.refl _ _).grown hgr (Nat.le_refl _) (fun k hk => by cases hk))
    | (at_builtin; refine wpList_append_fits_any _ rfl (.tmp 12) (.tmp 13) 22 rfl w.heap.size 9 i0 1 Try.underlying22 hi hzs1 w.heap.size 0 (n1 + n2) [] rfl hown a1 n1 c1 (s1.map Value.string) rfl (by rw [List.length_map, G1.out]; omega) hN1.out (hC1.out _ hbl1) (strs_oneCell _) (by omega) ?_; intro w2 hown2 hgr2; simp only [Nat.zero_add, List.nil_append] at hown2; have hbl2 : Below w.heap.size w w2 := hbl1.grown hgr2 hbl1.size (fun k hk => by cases hk; exact Nat.le_refl _))
    | (at_builtin; refine wpList_append_fits_any _ rfl (.tmp 15) (.tmp 16) 22 rfl w.heap.size 9 i0 1 Try.underlying22 hi hzs1 w.heap.size n1 (n1 + n2) _ rfl hown2 a2 n2 c2 (s2.map Value.string) rfl (by rw [List.length_map, G2.out]; omega) hN2.out (hC2.out _ hbl2) (strs_oneCell _) (by omega) ?_; intro w3 hown3 hgr3; have hbl3 : Below w.heap.size w w3 := hbl2.grown hgr3 hbl2.size (fun k hk => by cases hk; exact Nat.le_refl _)))
  go_ret
  rw [← List.map_append] at hown3
  exact ⟨_, rfl, SH.of_owns hown3 (by rw [List.length_append, G1.out, G2.out]) (by rw [List.length_append, G1.out, G2.out]; omega), hbl3⟩

set_option maxHeartbeats 2000000 in
/-- zzBytes_FnWithoutInTwoSteps: it returns some bool; nothing turns -/
theorem bytes3 (l : ByteArray) (v1 v2 v3 : Value) (s1 s2 s3 : List ByteArray) (w : World) (h1 : SH w v1 s1) (h2 : SH w v2 s2) (h3 : SH w v3 s3) :
    Calls Try.prog 7 #[.string l, v1, v2, v3] w fun e w' => AnyBool e ∧ w' = w := by
  obtain ⟨a1, c1, rfl, hb1, hc1⟩ := h1.gen
  obtain ⟨a2, c2, rfl, hb2, hc2⟩ := h2.gen
  obtain ⟨a3, c3, rfl, hb3, hc3⟩ := h3.gen
  clear h1 h2 h3
  generalize s1.length = n1 at hb1 hc1 ⊢
  generalize s2.length = n2 at hb2 hc2 ⊢
  generalize s3.length = n3 at hb3 hc3 ⊢
  go_enter Try.func7, Try.ntmps7
  go_wp2
  all_goals first | (go_ret; exact ⟨⟨_, rfl⟩, rfl⟩) | skip
  go_loop [9, 10] (fun t i => ∃ (k : Nat) (r : Int), k ≤ n1 ∧ i = .int .i64 k ∧ t = .int .i64 r) (fun _ i => n1 - (intOf i).toNat)
  case atStart => exact ⟨0, _, by omega, rfl, rfl⟩
  case round =>
    obtain ⟨k1, r1, hk1, rfl, rfl⟩ := hrel
    by_cases hltk1 : k1 < n1
    · obtain ⟨b, off, rfl, hcell⟩ := hc1 k1 hltk1
      generalize s1.getD k1 ByteArray.empty = s at hcell
      clear hc1 hc2 hc3
      go_wp2
      all_goals first | (go_ret; exact ⟨⟨_, rfl⟩, rfl⟩) | skip
      go_round
      case rel => exact ⟨k1 + 1, _, by omega, by go_num, rfl⟩
      case measure => simp [intOf]; omega
    · go_wp2
      all_goals first | (go_ret; exact ⟨⟨_, rfl⟩, rfl⟩) | skip
      go_loop [9, 11] (fun t i => ∃ (k : Nat) (r : Int), k ≤ n2 ∧ i = .int .i64 k ∧ t = .int .i64 r) (fun _ i => n2 - (intOf i).toNat)
      case atStart => exact ⟨0, _, by omega, rfl, rfl⟩
      case round =>
        obtain ⟨k2, r2, hk2, rfl, rfl⟩ := hrel
        by_cases hltk2 : k2 < n2
        · obtain ⟨b, off, rfl, hcell⟩ := hc2 k2 hltk2
          generalize s2.getD k2 ByteArray.empty = s at hcell
          clear hc1 hc2 hc3
          go_wp2
          all_goals first | (go_ret; exact ⟨⟨_, rfl⟩, rfl⟩) | skip
          go_round
          case rel => exact ⟨k2 + 1, _, by omega, by go_num, rfl⟩
          case measure => simp [intOf]; omega
        · go_wp2
          all_goals first | (go_ret; exact ⟨⟨_, rfl⟩, rfl⟩) | skip
          go_loop [9, 12] (fun t i => ∃ (k : Nat) (r : Int), k ≤ n3 ∧ i = .int .i64 k ∧ t = .int .i64 r) (fun _ i => n3 - (intOf i).toNat)
          case atStart => exact ⟨0, _, by omega, rfl, rfl⟩
          case round =>
            obtain ⟨k3, r3, hk3, rfl, rfl⟩ := hrel
            by_cases hltk3 : k3 < n3
            · obtain ⟨b, off, rfl, hcell⟩ := hc3 k3 hltk3
              generalize s3.getD k3 ByteArray.empty = s at hcell
              clear hc1 hc2 hc3
              go_wp2
              all_goals first | (go_ret; exact ⟨⟨_, rfl⟩, rfl⟩) | skip
              go_round
              case rel => exact ⟨k3 + 1, _, by omega, by go_num, rfl⟩
              case measure => simp [intOf]; omega
            · go_wp2
              all_goals first | (go_ret; exact ⟨⟨_, rfl⟩, rfl⟩) | skip

end Go.Proofs.Qxb6612939a
