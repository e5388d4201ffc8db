/-
  sameStringSet where it answers true; distinct.
-/
import Derived.Test.Qxb6609488aStrs
import Derived.OwnWalk
import Derived.Maps.AppendAt
import Derived.Laws.OwnMore
namespace Go.Proofs.Qxb6609488a
open Go.RowKit

theorem SH.shape {w : World} {v : Value} {ss : List ByteArray} (h : SH w v ss) : ∃ a c, v = .slice a ss.length c := by
  obtain ⟨hl, ⟨rfl, a, c, rfl⟩ | ⟨b, off, c, rfl, hc⟩⟩ := h
  · exact ⟨a, c, rfl⟩
  · exact ⟨_, c, rfl⟩

theorem SH.gen {w : World} {v : Value} {ss : List ByteArray} (h : SH w v ss) : ∃ a c, v = .slice a ss.length c ∧ ss.length ≤ 9223372036854775807 ∧
    ∀ i, i < ss.length → ∃ b off, a = some ⟨b, off, none⟩ ∧ w.cell? ⟨b, off + i, none⟩ = some (.string (ss.getD i ByteArray.empty)) := by
  obtain ⟨hl, ⟨rfl, a, c, rfl⟩ | ⟨b, off, c, rfl, hc⟩⟩ := h
  · exact ⟨a, c, rfl, hl, fun i hi => by simp at hi⟩
  · exact ⟨_, c, rfl, hl, fun i hi => ⟨b, off, rfl, hc i hi⟩⟩

theorem SH.below {w w' : World} {v : Value} {ss : List ByteArray} (h : SH w v ss) (hb : Below w.heap.size w w') : SH w' v ss := by
  obtain ⟨hl, ⟨rfl, a, c, rfl⟩ | ⟨b, off, c, rfl, hc⟩⟩ := h
  · exact ⟨hl, .inl ⟨rfl, a, c, rfl⟩⟩
  · refine ⟨hl, .inr ⟨b, off, c, rfl, fun i hi => ?_⟩⟩
    have := hc i hi
    rw [hb.cell (World.block_lt_of_cell? w _ this)]
    exact this

theorem SH.of_owns {w : World} {base n : Nat} {v : Value} {ss : List ByteArray} (h : w.ownsRow base 9 1 v n (ss.map Value.string)) (hn : n = ss.length) (hl : ss.length ≤ 9223372036854775807) : SH w v ss := by
  subst hn
  have h0 := h
  rcases h.2 with ⟨rfl, h2⟩ | ⟨g, cap, cur, rfl, _⟩
  · exact ⟨hl, .inl ⟨List.length_eq_zero_iff.1 h2, none, 0, rfl⟩⟩
  · refine ⟨hl, .inr ⟨g, 0, cap, rfl, fun i hi => ?_⟩⟩
    rw [Nat.zero_add, h0.cellAt i (by omega)]
    simp [List.getElem?_eq_getElem hi]

theorem mem_getD {ss : List ByteArray} {i : Nat} (h : i < ss.length) : ss.getD i ByteArray.empty ∈ ss := by
  rw [List.getD_eq_getElem?_getD, List.getElem?_eq_getElem h]; exact List.getElem_mem h

set_option maxHeartbeats 1000000 in
/-- sameStringSet at two lists of the same members -/
theorem sameSet (va vb : Value) (ss ts : List ByteArray) (w : World) (ha : SH w va ss) (hb : SH w vb ts) (h1 : ∀ x, x ∈ ss → x ∈ ts) (h2 : ∀ x, x ∈ ts → x ∈ ss) :
    Calls Try.prog 9 #[va, vb] w fun e w' => e = .returned (.bool true) ∧ w' = w := by
  have hA := fun x => holds va ss x w ha
  have hB := fun x => holds vb ts x w hb
  obtain ⟨a, c, rfl, hl, hca⟩ := ha.gen
  obtain ⟨a2, c2, rfl, hl2, hcb⟩ := hb.gen
  have e1 : ∀ i, i < ss.length → Lib.containsS ts (ss.getD i ByteArray.empty) = true := fun i hi => (Lib.containsS_iff _ _).2 (h1 _ (mem_getD hi))
  have e2 : ∀ i, i < ts.length → Lib.containsS ss (ts.getD i ByteArray.empty) = true := fun i hi => (Lib.containsS_iff _ _).2 (h2 _ (mem_getD hi))
  clear h1 h2 ha hb
  generalize ss.length = n at *
  generalize ts.length = m at *
  go_enter Try.func9, Try.ntmps9
  go_wp2
  go_loopw [5] (fun i wr => ∃ k : Nat, k ≤ n ∧ i = .int .i64 k ∧ wr = w) (fun i _ => n - (intOf i).toNat)
  case atStart => exact ⟨0, by omega, rfl, rfl⟩
  case round =>
    obtain ⟨k, hk, rfl, rfl⟩ := hrel
    by_cases hlt : k < n
    · obtain ⟨b, off, rfl, hc⟩ := hca k hlt
      have hB' := hB (ss.getD k ByteArray.empty)
      rw [e1 k hlt] at hB'
      clear hA hB hca hcb e1 e2
      generalize ss.getD k ByteArray.empty = x at *
      go_wp2_with (go_at_call 8; refine hB'.mono ?_; rintro e w' ⟨rfl, hw⟩; subst w')
      go_roundw
      case rel => exact ⟨k + 1, by omega, by go_num, by first | trivial | rfl⟩
      case measure => simp [intOf]; omega
    · have : k = n := by omega
      subst this
      go_wp2
      go_loopw [6] (fun i w2 => ∃ j : Nat, j ≤ m ∧ i = .int .i64 j ∧ w2 = wr) (fun i _ => m - (intOf i).toNat)
      case atStart => exact ⟨0, by omega, rfl, rfl⟩
      case round =>
        obtain ⟨j, hj, rfl, rfl⟩ := hrel
        by_cases hlt2 : j < m
        · obtain ⟨b, off, rfl, hc⟩ := hcb j hlt2
          have hA' := hA (ts.getD j ByteArray.empty)
          rw [e2 j hlt2] at hA'
          clear hA hB hca hcb e1 e2
          generalize ts.getD j ByteArray.empty = x at *
          go_wp2_with (go_at_call 8; refine hA'.mono ?_; rintro e w' ⟨rfl, hw⟩; subst w')
          go_roundw
          case rel => exact ⟨j + 1, by omega, by go_num, by first | trivial | rfl⟩
          case measure => simp [intOf]; omega
        · go_wp2
          go_ret
          exact ⟨rfl, rfl⟩

/-! ### distinct -/
def dist (ss : List ByteArray) : List ByteArray := ss.foldl (fun acc x => if Lib.containsS acc x then acc else acc ++ [x]) []

theorem dist_snoc (ss : List ByteArray) (x : ByteArray) : dist (ss ++ [x]) = if Lib.containsS (dist ss) x then dist ss else dist ss ++ [x] := by
  unfold dist; rw [List.foldl_append]; rfl

theorem dist_take {ss : List ByteArray} {k : Nat} (hk : k < ss.length) : dist (ss.take (k + 1)) = if Lib.containsS (dist (ss.take k)) (ss.getD k ByteArray.empty) then dist (ss.take k) else dist (ss.take k) ++ [ss.getD k ByteArray.empty] := by
  rw [List.take_succ_eq_append_getElem hk, dist_snoc, List.getD_eq_getElem?_getD, List.getElem?_eq_getElem hk]; rfl

theorem dist_facts (ss : List ByteArray) : ∀ k, k ≤ ss.length → (dist (ss.take k)).Nodup ∧ (∀ x, x ∈ dist (ss.take k) ↔ x ∈ ss.take k) ∧ (dist (ss.take k)).length ≤ k
  | 0, _ => by simp [dist]
  | k + 1, hk => by
    obtain ⟨h1, h2, h3⟩ := dist_facts ss k (by omega)
    rw [dist_take (by omega)]
    have ht : ss.take (k + 1) = ss.take k ++ [ss.getD k ByteArray.empty] := by
      rw [List.take_succ_eq_append_getElem (by omega), List.getD_eq_getElem?_getD, List.getElem?_eq_getElem (by omega)]; rfl
    rw [ht]
    generalize ss.getD k ByteArray.empty = y
    by_cases hc : Lib.containsS (dist (ss.take k)) y = true
    · rw [if_pos hc]
      rw [Lib.containsS_iff] at hc
      refine ⟨h1, fun x => ?_, by omega⟩
      rw [h2, List.mem_append, List.mem_singleton]
      constructor
      · exact .inl
      · rintro (h | rfl)
        · exact h
        · exact (h2 _).1 hc
    · rw [if_neg hc]
      rw [Lib.containsS_iff] at hc
      refine ⟨?_, fun x => by rw [List.mem_append, List.mem_append, h2], by simp; omega⟩
      rw [List.nodup_append]
      refine ⟨h1, by simp, fun a ha b hb => ?_⟩
      simp at hb
      subst hb
      intro e
      subst e
      exact hc ha

theorem info9 : (Try.prog.info? 9).map (fun i => (i.zero, i.size, i.bytes)) = some (some (.string ByteArray.empty), 1, 16) := by kernel_rfl
theorem info_parts {t : TypeId} {z : Value} {s b : Nat} (h : (Try.prog.info? t).map (fun i => (i.zero, i.size, i.bytes)) = some (some z, s, b)) : ∃ i, Try.prog.info? t = some i ∧ i.zero = some z ∧ i.size = s ∧ i.bytes = b := by
  cases e : Try.prog.info? t with
  | none => rw [e] at h; cases h
  | some i => rw [e] at h; simp at h; exact ⟨i, rfl, h.1, h.2.1, h.2.2⟩

theorem dist_hit {ss : List ByteArray} {k : Nat} {s : ByteArray} {w wr w1 : World} {v v' : Value} (h : k < ss.length) (hs : ss.getD k ByteArray.empty = s) (hp : Lib.containsS (dist (ss.take k)) s = false)
    (hown' : w1.ownsRow w.heap.size 9 1 v' ((dist (ss.take k)).length + 1) ((dist (ss.take k)).map Value.string ++ [Value.string s])) (hbel : Below w.heap.size w wr) (o : Obj) (hg : (wr.alloc o).grownBy w1 v.ownBlock)
    (hown : wr.ownsRow w.heap.size 9 1 v (dist (ss.take k)).length ((dist (ss.take k)).map Value.string)) :
    w1.ownsRow w.heap.size 9 1 v' (dist (ss.take (k + 1))).length ((dist (ss.take (k + 1))).map Value.string) ∧ Below w.heap.size w w1 := by
  refine ⟨?_, ?_⟩
  · rw [dist_take h, hs, hp]
    simpa using hown'
  · have hz := hbel.size
    refine (hbel.alloc hz o).grown hg (by simp; omega) (fun k hk => (hown.lt k hk).1)

set_option maxHeartbeats 1000000 in
/-- distinct -/
theorem distinct (v : Value) (ss : List ByteArray) (w : World) (h : SH w v ss) (hl : ss.length ≤ 131072) :
    Calls Try.prog 11 #[v] w fun e w' => ∃ v', e = .returned v' ∧ SH w' v' (dist ss) ∧ Below w.heap.size w w' := by
  obtain ⟨a, c, rfl, hb, hc⟩ := h.gen
  obtain ⟨i0, hi, hz0, hz1, hz2⟩ := info_parts info9
  have hdf := dist_facts ss
  generalize hn : ss.length = n at *
  have HL : Hid (ss.length = n) := hn
  clear hn h
  go_enter Try.func11, Try.ntmps11
  go_wp2
  go_loopw [3, 8] (fun out i wr => ∃ k : Nat, k ≤ n ∧ i = .int .i64 k ∧ wr.ownsRow w.heap.size 9 1 out (dist (ss.take k)).length ((dist (ss.take k)).map Value.string) ∧ Below w.heap.size w wr) (fun _ i _ => n - (intOf i).toNat)
  case atStart => exact ⟨0, by omega, rfl, World.ownsRow_nil _ _ _ _, Below.refl _ _⟩
  case round =>
    obtain ⟨k, hk, rfl, hown, hbl⟩ := hrel
    have hfl := (hdf k hk).2.2
    by_cases hlt : k < n
    · obtain ⟨b, off, e, hcell⟩ := hc k hlt
      cases e
      have hcl : wr.cell? ⟨b, off + k, none⟩ = some (.string (ss.getD k ByteArray.empty)) := by
        rw [hbl.cell (World.block_lt_of_cell? w _ hcell)]; exact hcell
      have hS := SH.of_owns hown rfl (by omega)
      have hT := dist_take (ss := ss) (k := k) (by rw [HL.out]; exact hlt)
      generalize hs : ss.getD k ByteArray.empty = s at hcl hT
      have HS : Hid (ss.getD k ByteArray.empty = s) := hs
      obtain ⟨a3, c3, rfl⟩ := hS.shape
      have hcn := contains _ _ s wr hS
      clear hs hc hcell hdf
      have hsz := hbl.size
      cases hcon : Lib.containsS (dist (ss.take k)) s with
      | true =>
        rw [hcon] at hcn
        rw [hcon, if_pos rfl] at hT
        have HM : Hid _ := hT
        clear hT
        go_wp2_with (go_at_call 12; refine hcn.mono ?_; rintro e w' ⟨rfl, hw⟩; subst w')
        go_roundw
        case rel => exact ⟨k + 1, by omega, by go_num, by rw [HM.out]; exact hown, hbl⟩
        case measure => simp [intOf]; omega
      | false =>
        rw [hcon] at hcn
        clear hT
        go_wp2_with (first
          | (go_at_call 12; refine hcn.mono ?_; rintro e w' ⟨rfl, hw⟩; subst w')
          | (at_builtin; refine wpList_append_own _ rfl _ _ 24 rfl w.heap.size 9 i0 (.string ByteArray.empty) 1 16 Try.underlying24 hi hz0 hz1 hz2 rfl (by decide) _ _ _ rfl (hown.alloc _) ⟨wr.heap.size, 0, none⟩ 1 1 [.string s] rfl rfl ?c1 ?c2 ?c3 ?c4 ?c5 ?_))
        case c1 => exact cell_one_new _ _ _
        case c2 => intro u hu; simp at hu; subst hu; rfl
        case c3 => unfold maxLen; omega
        case c4 => omega
        case c5 => simp; omega
        · intro v' w1 hown' hgrow _
          have R := dist_hit (by rw [HL.out]; exact hlt) HS.out hcon hown' hbl _ hgrow hown
          clear hown' hgrow hown hbl
          go_wp2
          go_roundw
          case rel => exact ⟨k + 1, by omega, by go_num, R.1, R.2⟩
          case measure => simp [intOf]; omega
    · have : k = n := by omega
      subst this
      have ht : ss.take k = ss := by rw [← HL.out]; exact List.take_length
      go_wp2
      go_ret
      have hown2 := hown
      have hfl2 := hfl
      rw [ht] at hown2 hfl2
      exact ⟨_, rfl, SH.of_owns hown2 rfl (by omega), hbl⟩

/-! ### pairs -/
/-- a []KV value that leads to the pairs ls -/
def KA (w : World) (v : Value) (ls : List (ByteArray × ByteArray)) : Prop :=
  ls.length ≤ 9223372036854775807 ∧ ∃ a c, v = .slice a ls.length c ∧ ∀ i, i < ls.length → ∃ b off, a = some ⟨b, off, none⟩ ∧ w.cell? ⟨b, off + i * 2, none⟩ = some (.string ls[i]!.1) ∧ w.cell? ⟨b, off + i * 2 + 1, none⟩ = some (.string ls[i]!.2)

/-- the last value at a key -/
def lastOf (ls : List (ByteArray × ByteArray)) (k : ByteArray) : Nat → Option ByteArray
  | 0 => none
  | n + 1 => if ls[n]!.1 = k then some ls[n]!.2 else lastOf ls k n

theorem KA.below {w w' : World} {v : Value} {ls : List (ByteArray × ByteArray)} (h : KA w v ls) (hb : Below w.heap.size w w') : KA w' v ls := by
  obtain ⟨hl, a, c, e, hc⟩ := h
  refine ⟨hl, a, c, e, fun i hi => ?_⟩
  obtain ⟨b, off, ea, h1, h2⟩ := hc i hi
  exact ⟨b, off, ea, by rw [hb.cell (World.block_lt_of_cell? w _ h1)]; exact h1, by rw [hb.cell (World.block_lt_of_cell? w _ h2)]; exact h2⟩

set_option maxHeartbeats 1000000 in
/-- lastValue -/
theorem lastValue (v : Value) (ls : List (ByteArray × ByteArray)) (key : ByteArray) (w : World) (h : KA w v ls) :
    Calls Try.prog 7 #[v, .string key] w fun e w' => e = .returned (.tuple #[.string ((lastOf ls key ls.length).getD ByteArray.empty), .bool (lastOf ls key ls.length).isSome]) ∧ w' = w := by
  obtain ⟨hl, a, c, rfl, hc⟩ := h
  generalize hn : ls.length = n at *
  go_enter Try.func7, Try.ntmps7
  go_wp2
  go_loopw [6, 7, 8] (fun v6 v7 v8 wr => ∃ k : Nat, k ≤ n ∧ v8 = .int .i64 k ∧ v6 = .string ((lastOf ls key k).getD ByteArray.empty) ∧ v7 = .bool (lastOf ls key k).isSome ∧ wr = w) (fun _ _ v8 _ => n - (intOf v8).toNat)
  case atStart => exact ⟨0, by omega, rfl, rfl, rfl, rfl⟩
  case round =>
    obtain ⟨k, hk, rfl, rfl, rfl, rfl⟩ := hrel
    by_cases hlt : k < n
    · obtain ⟨b, off, rfl, h1, h2⟩ := hc k hlt
      have hL : lastOf ls key (k + 1) = if ls[k]!.1 = key then some ls[k]!.2 else lastOf ls key k := rfl
      clear hc
      generalize ls[k]!.1 = x at *
      generalize ls[k]!.2 = y at *
      by_cases he : (x.toList == key.toList) = true
      · have hx := (Lib.bytes_beq_iff _ _).1 he
        rw [if_pos hx] at hL
        have HL : Hid _ := hL
        clear hL hx
        go_wp2
        go_roundw
        case rel => exact ⟨k + 1, by omega, by go_num, by rw [HL.out]; rfl, by rw [HL.out]; rfl, by first | trivial | rfl⟩
        case measure => simp [intOf]; omega
      · have he' : (x.toList == key.toList) = false := by simpa using he
        have hx := (Lib.bytes_beq_false_iff _ _).1 he'
        rw [if_neg hx] at hL
        have HL : Hid _ := hL
        clear hL hx he
        go_wp2
        go_roundw
        case rel => exact ⟨k + 1, by omega, by go_num, by rw [HL.out], by rw [HL.out], by first | trivial | rfl⟩
        case measure => simp [intOf]; omega
    · have : k = n := by omega
      subst this
      go_wp2
      go_ret2
      exact ⟨rfl, rfl⟩

end Go.Proofs.Qxb6609488a
