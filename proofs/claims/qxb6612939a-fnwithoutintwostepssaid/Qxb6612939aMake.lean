/-
  The contracts of the helpers that make memory: zzCloneStrs, zzFilter, zzCat; the closures; those, not, Without, ZZWithout.
-/
import Derived.Test.Qxb6612939aStrs
import Derived.Lib.SliceRun
import Derived.WalkSpells
namespace Go.Proofs.Qxb6612939a
open Go.RowKit

theorem SH.below {w w' : World} {v : Value} {ss : List ByteArray} (h : SH w v ss) (hb : Below w.heap.size w w') : SH w' v ss := by
  obtain ⟨hl, ⟨rfl, a, c, rfl⟩ | ⟨b, off, c, rfl, hc⟩⟩ := h
  · exact ⟨hl, .inl ⟨rfl, a, c, rfl⟩⟩
  · refine ⟨hl, .inr ⟨b, off, c, rfl, fun i hi => ?_⟩⟩
    have := hc i hi
    rw [hb.cell (World.block_lt_of_cell? w _ this)]
    exact this

/-- A row of strings that the call owns, read as a []string. -/
theorem SH.of_owns {w : World} {base n : Nat} {v : Value} {ss : List ByteArray} (h : w.ownsRow base 9 1 v n (ss.map Value.string)) (hn : n = ss.length) (hl : ss.length ≤ 9223372036854775807) : SH w v ss := by
  subst hn
  have h0 := h
  rcases h.2 with ⟨rfl, h2⟩ | ⟨g, cap, cur, rfl, _⟩
  · exact ⟨hl, .inl ⟨List.length_eq_zero_iff.1 h2, none, 0, rfl⟩⟩
  · refine ⟨hl, .inr ⟨g, 0, cap, rfl, fun i hi => ?_⟩⟩
    rw [Nat.zero_add, h0.cellAt i (by omega)]
    simp [List.getElem?_eq_getElem hi]

theorem info9 : (Try.prog.info? 9).map (fun i => (i.zero, i.size, i.bytes)) = some (some (.string ByteArray.empty), 1, 16) := by kernel_rfl

def cloneTo (ss : List ByteArray) (k : Nat) : List Value := (ss.take k).map Value.string ++ List.replicate (ss.length - k) (.string ByteArray.empty)

theorem cloneTo_zero (ss : List ByteArray) : cloneTo ss 0 = List.replicate ss.length (.string ByteArray.empty) := by simp [cloneTo]
theorem cloneTo_full (ss : List ByteArray) : cloneTo ss ss.length = ss.map Value.string := by simp [cloneTo]
theorem cloneTo_at (ss : List ByteArray) (k : Nat) (h : k < ss.length) : (cloneTo ss k)[k]? = some (.string ByteArray.empty) := by
  unfold cloneTo
  rw [List.getElem?_append_right (by simp; omega)]
  have e1 : min k ss.length = k := by omega
  simp only [List.getElem?_replicate, List.length_map, List.length_take, e1]
  rw [if_pos (by omega)]
theorem cloneTo_step (ss : List ByteArray) (k : Nat) (h : k < ss.length) : (cloneTo ss k).set k (.string (ss.getD k ByteArray.empty)) = cloneTo ss (k + 1) := by
  apply List.ext_getElem?
  intro i
  unfold cloneTo
  rw [List.getElem?_set]
  by_cases h1 : k = i
  · subst h1
    have hs : (List.take (k + 1) ss)[k]? = some ss[k] := by simp [h]
    rw [if_pos rfl, if_pos (by simp; omega), List.getElem?_append_left (by simp; omega), List.getElem?_map, hs]
    simp [h]
  · rw [if_neg h1]
    by_cases h2 : i < k
    · rw [List.getElem?_append_left (by simp; omega), List.getElem?_append_left (by simp; omega)]
      simp [h2, show i < k + 1 by omega]
    · rw [List.getElem?_append_right (by simp; omega), List.getElem?_append_right (by simp; omega)]
      simp only [List.getElem?_replicate, List.length_map, List.length_take]
      have e1 : min k ss.length = k := by omega
      have e2 : min (k + 1) ss.length = k + 1 := by omega
      rw [e1, e2]
      by_cases h3 : i < ss.length
      · rw [if_pos (by omega), if_pos (by omega)]
      · rw [if_neg (by omega), if_neg (by omega)]

set_option maxHeartbeats 1000000 in
/-- zzCloneStrs -/
theorem clone (v : Value) (ss : List ByteArray) (w : World) (h : SH w v ss) (hl : ss.length ≤ 131072) :
    Calls Try.prog 10 #[v] w fun e w' => ∃ v', e = .returned v' ∧ SH w' v' ss ∧ Below w.heap.size w w' := by
  obtain ⟨a, c, rfl, hb, hc⟩ := h.gen
  have hnil := fun W => Lib.run_eql_slice_nil (P := Try.prog) W 22 9 a ss.length c 0 0 Try.underlying22
  obtain ⟨i0, hi, hz0, hz1, hz2⟩ := info_parts info9
  cases a with
  | none =>
    have e : ss = [] := by
      cases ss with
      | nil => rfl
      | cons x xs => obtain ⟨_, _, hh, _⟩ := hc 0 (by simp); cases hh
    subst e
    clear hc hi hz0 hz1 hz2 hb hl h
    simp only [List.length_nil] at hnil ⊢
    go_enter Try.func10, Try.ntmps10
    go_wp2
    go_ret
    exact ⟨_, rfl, ⟨by simp, .inl ⟨rfl, none, 0, rfl⟩⟩, Below.refl _ _⟩
  | some ad =>
    generalize hn : ss.length = n at *
    have HL : Hid (ss.length = n) := hn
    clear hn h
    go_enter Try.func10, Try.ntmps10
    go_wp2_with (at_make; refine wpList_make_full _ rfl _ _ 22 rfl w.heap.size 9 i0 (.string ByteArray.empty) 1 Try.underlying22 hi hz0 hz1 _ _ _ _ n rfl rfl rfl rfl (by rw [hz2]; omega) (by unfold maxLen; omega) (Nat.le_refl _) ?_; intro w1 hown hgr)
    have hown0 : w1.ownsRow w.heap.size 9 1 (.slice (some ⟨w.heap.size, 0, none⟩) n n) n (cloneTo ss 0) := by
      rw [Nat.mul_one] at hown; rw [cloneTo_zero, HL.out, ← toList_madeCells_one]; exact hown
    have hbel : Below w.heap.size w w1 := (Below.refl _ _).grown hgr (Nat.le_refl _) (fun k hk => by cases hk)
    clear hown hgr hnil hi hz0 hz1 hz2
    go_loopw [4] (fun i wr => ∃ k : Nat, k ≤ n ∧ i = .int .i64 k ∧ wr.ownsRow w.heap.size 9 1 (.slice (some ⟨w.heap.size, 0, none⟩) n n) n (cloneTo ss k) ∧ Below w.heap.size w wr) (fun i _ => n - (intOf i).toNat)
    case atStart => exact ⟨0, by omega, rfl, hown0, hbel⟩
    case round =>
      obtain ⟨k, hk, rfl, hown, hbl⟩ := hrel
      by_cases hlt : k < n
      · obtain ⟨b, off, e, hcell⟩ := hc k hlt
        cases e
        have hcl : wr.cell? ⟨b, off + k, none⟩ = some (.string (ss.getD k ByteArray.empty)) := by
          rw [hbl.cell (World.block_lt_of_cell? w _ hcell)]; exact hcell
        have hcd : wr.cell? ⟨w.heap.size, k, none⟩ = some (.string ByteArray.empty) := by
          rw [hown.cellAt k (by omega), cloneTo_at ss k (by rw [HL.out]; exact hlt)]
        have hfz : wr.frozen? ⟨w.heap.size, k, none⟩ = false := hown.frozenAt k
        have hst := (hown.stored k (.string (ss.getD k ByteArray.empty))).1
        rw [cloneTo_step ss k (by rw [HL.out]; exact hlt)] at hst
        generalize hs : ss.getD k ByteArray.empty = s at hcl hst
        have hbl2 := hbl.setCell (p := ⟨w.heap.size, k, none⟩) (Nat.le_refl _) (.string s)
        clear hs hc hcell hown hbl hown0 hbel
        go_wp2
        go_roundw
        case rel => exact ⟨k + 1, by omega, by go_num, hst, hbl2⟩
        case measure => simp [intOf]; omega
      · have : k = n := by omega
        subst this
        go_wp2
        go_ret
        rw [← HL.out, cloneTo_full, HL.out] at hown
        exact ⟨_, rfl, SH.of_owns hown HL.out.symm (by rw [HL.out]; exact hb), hbl⟩

/-! ### zzFilter, those -/
def filt (p : ByteArray → Bool) (ss : List ByteArray) (k : Nat) : List ByteArray := (ss.take k).filter p

theorem filt_le (p : ByteArray → Bool) (ss : List ByteArray) (k : Nat) : (filt p ss k).length ≤ k :=
  Nat.le_trans (List.length_filter_le _ _) (List.length_take_le _ _)
theorem filt_hit {p : ByteArray → Bool} {ss : List ByteArray} {k : Nat} {s : ByteArray} (h : k < ss.length) (hs : ss.getD k ByteArray.empty = s) (hp : p s = true) : filt p ss (k + 1) = filt p ss k ++ [s] := by
  have e : ss[k] = s := by rw [← hs]; simp [h]
  unfold filt
  rw [List.take_succ_eq_append_getElem h, e, List.filter_append]
  simp [hp]
theorem filt_miss {p : ByteArray → Bool} {ss : List ByteArray} {k : Nat} {s : ByteArray} (h : k < ss.length) (hs : ss.getD k ByteArray.empty = s) (hp : p s = false) : filt p ss (k + 1) = filt p ss k := by
  have e : ss[k] = s := by rw [← hs]; simp [h]
  unfold filt
  rw [List.take_succ_eq_append_getElem h, e, List.filter_append]
  simp [hp]
theorem filt_full (p : ByteArray → Bool) (ss : List ByteArray) : filt p ss ss.length = ss.filter p := by simp [filt]

/-- What one append of a string does to the gathered row. -/
theorem gather_hit {p : ByteArray → Bool} {ss : List ByteArray} {k : Nat} {s : ByteArray} {w wr w1 : World} {v v' : Value} (h : k < ss.length) (hs : ss.getD k ByteArray.empty = s) (hp : p s = true)
    (hown' : w1.ownsRow w.heap.size 9 1 v' ((filt p ss k).length + 1) ((filt p ss k).map Value.string ++ [Value.string s])) (hbel : Below w.heap.size w wr) (o : Obj) (hg : (wr.alloc o).grownBy w1 v.ownBlock)
    (hown : wr.ownsRow w.heap.size 9 1 v (filt p ss k).length ((filt p ss k).map Value.string)) :
    w1.ownsRow w.heap.size 9 1 v' (filt p ss (k + 1)).length ((filt p ss (k + 1)).map Value.string) ∧ Below w.heap.size w w1 := by
  refine ⟨?_, ?_⟩
  · rw [filt_hit h hs hp]
    simpa using hown'
  · have hz := hbel.size
    refine (hbel.alloc hz o).grown hg (by simp; omega) (fun k hk => (hown.lt k hk).1)

set_option maxHeartbeats 1000000 in
/-- zzFilter, 'in' being false -/
theorem filter (v vs : Value) (ss st : List ByteArray) (w : World) (h : SH w v ss) (hset : SH w vs st) (hl : ss.length ≤ 131072) :
    Calls Try.prog 13 #[v, vs, .bool false] w fun e w' => ∃ v', e = .returned v' ∧ SH w' v' (ss.filter fun x => !Lib.containsS st x) ∧ Below w.heap.size w w' := by
  obtain ⟨a, c, rfl, hb, hc⟩ := h.gen
  obtain ⟨i0, hi, hz0, hz1, hz2⟩ := info_parts info9
  have hss := h
  generalize hn : ss.length = n at *
  have HL : Hid (ss.length = n) := hn
  clear hn h hss
  go_enter Try.func13, Try.ntmps13
  go_wp2
  go_loopw [7, 8] (fun out i wr => ∃ k : Nat, k ≤ n ∧ i = .int .i64 k ∧ wr.ownsRow w.heap.size 9 1 out (filt (fun x => !Lib.containsS st x) ss k).length ((filt (fun x => !Lib.containsS st x) ss k).map Value.string) ∧ Below w.heap.size w wr) (fun _ i _ => n - (intOf i).toNat)
  case atStart => exact ⟨0, by omega, rfl, World.ownsRow_nil _ _ _ _, Below.refl _ _⟩
  case round =>
    obtain ⟨k, hk, rfl, hown, hbl⟩ := hrel
    by_cases hlt : k < n
    · obtain ⟨b, off, e, hcell⟩ := hc k hlt
      cases e
      have hcl : wr.cell? ⟨b, off + k, none⟩ = some (.string (ss.getD k ByteArray.empty)) := by
        rw [hbl.cell (World.block_lt_of_cell? w _ hcell)]; exact hcell
      have hS := hset.below hbl
      have hfl := filt_le (fun x => !Lib.containsS st x) ss k
      generalize hs : ss.getD k ByteArray.empty = s at hcl
      have HS : Hid (ss.getD k ByteArray.empty = s) := hs
      clear hs hc hcell hset
      have hsz := hbl.size
      cases hcon : Lib.containsS st s with
      | true =>
        have hM := filt_miss (p := fun x => !Lib.containsS st x) (by rw [HL.out]; exact hlt) HS.out (by simp [hcon])
        have hown2 := hown
        rw [← hM] at hown2
        have HM : Hid _ := hM
        clear hM
        go_wp2_with (go_at_call 9; refine (hasStr vs st s _ hS).mono ?_; rintro e w' ⟨rfl, hw⟩; subst w')
        go_roundw
        case rel => exact ⟨k + 1, by omega, by go_num, hown2, hbl⟩
        case measure => simp [intOf]; omega
      | false =>
        go_wp2_with (first
          | (go_at_call 9; refine (hasStr vs st s _ hS).mono ?_; rintro e w' ⟨rfl, hw⟩; subst w')
          | (at_builtin; refine wpList_append_own _ rfl _ _ 22 rfl w.heap.size 9 i0 (.string ByteArray.empty) 1 16 Try.underlying22 hi hz0 hz1 hz2 rfl (by decide) _ _ _ rfl (hown.alloc _) ⟨wr.heap.size, 0, none⟩ 1 1 [.string s] rfl rfl ?c1 ?c2 ?c3 ?c4 ?c5 ?_))
        case c1 => exact cell_one_new _ _ _
        case c2 => intro u hu; simp at hu; subst hu; rfl
        case c3 => unfold maxLen; omega
        case c4 => omega
        case c5 => simp; omega
        · intro v' w1 hown' hgrow _
          have R := gather_hit (p := fun x => !Lib.containsS st x) (by rw [HL.out]; exact hlt) HS.out (by simp [hcon]) hown' hbl _ hgrow hown
          clear hown' hgrow hown hbl
          go_wp2
          go_roundw
          case rel => exact ⟨k + 1, by omega, by go_num, R.1, R.2⟩
          case measure => simp [intOf]; omega
    · have : k = n := by omega
      subst this
      go_wp2
      go_ret
      rw [← HL.out, filt_full] at hown
      exact ⟨_, rfl, SH.of_owns hown rfl (Nat.le_trans (List.length_filter_le _ _) (by rw [HL.out]; exact hb)), hbl⟩

end Go.Proofs.Qxb6612939a
