/-
  FnWithoutIdempotent: the walk.
-/
import Derived.Test.Qxb6612939aZZ
namespace Go.Proofs.Qxb6612939a
open Go.RowKit

theorem bt {a b c : World} (h : Below a.heap.size a b) (k : Below b.heap.size b c) : Below a.heap.size a c := h.trans (k.mono h.size)

theorem filter_contains_self (ss rs : List ByteArray) : woR (woR ss rs) rs = woR ss rs := by
  unfold woR; simp [List.filter_filter]
theorem woL_again (l : ByteArray) (ss rs : List ByteArray) : woL l (woR ss rs) rs = l := by
  unfold woL; rw [filter_contains_self, if_pos rfl]
theorem woR_le (ss rs : List ByteArray) : (woR ss rs).length ≤ ss.length := List.length_filter_le _ _

set_option maxHeartbeats 2000000 in
theorem idem_big (l : ByteArray) (v1 v2 : Value) (s1 s2 : List ByteArray) (w : World) (h1 : SH w v1 s1) (h2 : SH w v2 s2)
    (hbig : 65536 < l.size ∨ 65536 < s1.length ∨ 65536 < s2.length) :
    Calls Try.prog 4 #[.string l, v1, v2] w fun e w' => e = .returned (.bool true) ∧ Below w.heap.size w w' := by
  have hb := bytes2 l v1 v2 s1 s2 w h1 h2
  obtain ⟨a1, c1, rfl⟩ := h1.shape
  obtain ⟨a2, c2, rfl⟩ := h2.shape
  clear h1 h2
  go_enter Try.func4, Try.ntmps4
  go_wp2_with (go_at_call 16; refine hb.mono ?_; rintro e w' ⟨⟨r, rfl⟩, hw⟩; subst w')
  all_goals first | (go_ret; exact ⟨rfl, Below.refl _ _⟩) | skip
  all_goals (exfalso; omega)

set_option maxHeartbeats 2000000 in
theorem idem_main (l : ByteArray) (v1 v2 : Value) (s1 s2 : List ByteArray) (w : World) (h1 : SH w v1 s1) (h2 : SH w v2 s2)
    (hl0 : l.size ≤ 65536) (hl1 : s1.length ≤ 65536) (hl2 : s2.length ≤ 65536) :
    Calls Try.prog 4 #[.string l, v1, v2] w fun e w' => e = .returned (.bool true) ∧ Below w.heap.size w w' := by
  have hb := bytes2 l v1 v2 s1 s2 w h1 h2
  have hs1 := fun at0 => strsBytes at0 v1 s1 w h1
  have hs2 := fun at0 => strsBytes at0 v2 s2 w h2
  have hc1 := clone v1 s1 w h1 (by omega)
  obtain ⟨a1, c1, rfl⟩ := h1.shape
  obtain ⟨a2, c2, rfl⟩ := h2.shape
  go_enter Try.func4, Try.ntmps4
  go_wp2_with (first
    | (go_at_call 16; refine hb.mono ?_; rintro e w' ⟨⟨r, rfl⟩, hw⟩; subst w')
    | (go_at_call_of 8 (Value.slice a1 s1.length c1); refine (hs1 _).mono ?_; rintro e w' ⟨⟨r1, rfl⟩, hw⟩; subst w')
    | (go_at_call_of 8 (Value.slice a2 s2.length c2); refine (hs2 _).mono ?_; rintro e w' ⟨⟨r2, rfl⟩, hw⟩; subst w'))
  all_goals first | (go_ret; exact ⟨rfl, Below.refl _ _⟩) | skip
  clear hb hs1 hs2
  refine hc1.mono ?_
  rintro e w1 ⟨x1, rfl, hx1, hb1⟩
  obtain ⟨y1, z1, rfl⟩ := hx1.shape
  have h2' := h2.below hb1
  clear hc1 h1 h2
  go_wp2_with fail
  refine (clone _ s2 w1 h2' (by omega)).mono ?_
  rintro e w2 ⟨x2, rfl, hx2, hb2⟩
  obtain ⟨y2, z2, rfl⟩ := hx2.shape
  have hx1' := hx1.below hb2
  have hB := bt hb1 hb2
  clear h2' hx1 hb1 hb2
  go_wp2_with fail
  refine (clone _ s1 w2 hx1' (by omega)).mono ?_
  rintro e w3 ⟨x3, rfl, hx3, hb3⟩
  obtain ⟨y3, z3, rfl⟩ := hx3.shape
  have hx1 := hx1'.below hb3
  have hx2' := hx2.below hb3
  have hB3 := bt hB hb3
  clear hx1' hx2 hB hb3
  have bA : Below w3.heap.size w3 (w3.alloc (.cells #[.string l, .slice y3 s1.length z3] 29)) := (Below.refl _ _).alloc (Nat.le_refl _) _
  have hx1A := hx1.below bA
  have hx2A := hx2'.below bA
  have hx3A := hx3.below bA
  have hBA := bt hB3 bA
  clear hx1 hx2' hx3 hB3 bA
  go_wp2_with fail
  refine (zzWithout l _ s1 _ s2 _ hx3A (by omega) hx2A).mono ?_
  rintro e w4 ⟨o1, rfl, ho1, hb4⟩
  obtain ⟨p1, q1, rfl⟩ := ho1.shape
  have hx1 := hx1A.below hb4
  have hx2 := hx2A.below hb4
  have hB4 := bt hBA hb4
  clear hx1A hx2A hx3A hBA hb4
  have bB : Below w4.heap.size w4 (w4.alloc (.cells #[.string (woL l s1 s2), .slice p1 (woR s1 s2).length q1] 29)) := (Below.refl _ _).alloc (Nat.le_refl _) _
  have hx1B := hx1.below bB
  have hx2B := hx2.below bB
  have ho1B := ho1.below bB
  have hBB := bt hB4 bB
  have hwle := woR_le s1 s2
  clear hx1 hx2 ho1 hB4
  go_wp2_with fail
  refine (zzWithout _ _ (woR s1 s2) _ s2 _ ho1B (by omega) hx2B).mono ?_
  rw [filter_contains_self, woL_again]
  rintro e w5 ⟨o2, rfl, ho2, hb5⟩
  obtain ⟨p2, q2, rfl⟩ := ho2.shape
  have k0 : w5.cell? ⟨w4.heap.size, 0, none⟩ = some (.string (woL l s1 s2)) := by rw [hb5.cell (by show w4.heap.size < _; simp)]; go_simp
  have k1 : w5.cell? ⟨w4.heap.size, 1, none⟩ = some (.slice p1 (woR s1 s2).length q1) := by rw [hb5.cell (by show w4.heap.size < _; simp)]; go_simp
  have k9 : w4.heap.size < w5.heap.size := by have := hb5.size; simp at this; omega
  have hx1 := hx1B.below hb5
  have hx2 := hx2B.below hb5
  have ho1 := ho1B.below hb5
  have hB5 := bt hBB hb5
  clear hx1B hx2B ho1B hBB hb5 bB
  have bC : Below w5.heap.size w5 (w5.alloc (.cells #[.string (woL l s1 s2), .slice p2 (woR s1 s2).length q2] 29)) := (Below.refl _ _).alloc (Nat.le_refl _) _
  have hx1C := hx1.below bC
  have hx2C := hx2.below bC
  have ho1C := ho1.below bC
  have ho2C := ho2.below bC
  have hBC := bt hB5 bC
  clear hx1 hx2 ho1 ho2 hB5 bC
  go_wp2_with fail
  refine (filter _ _ s1 s2 _ hx1C hx2C (by omega)).mono ?_
  rintro e w6 ⟨f, rfl, hf0, hb6⟩
  have hf : SH w6 f (woR s1 s2) := hf0
  obtain ⟨pf, qf, rfl⟩ := hf.shape
  have m0 : w6.cell? ⟨w4.heap.size, 0, none⟩ = some (.string (woL l s1 s2)) := by rw [hb6.cell (by show w4.heap.size < _; simp; omega)]; go_simp
  have m1 : w6.cell? ⟨w4.heap.size, 1, none⟩ = some (.slice p1 (woR s1 s2).length q1) := by rw [hb6.cell (by show w4.heap.size < _; simp; omega)]; go_simp
  have t0 : w6.cell? ⟨w5.heap.size, 0, none⟩ = some (.string (woL l s1 s2)) := by rw [hb6.cell (by show w5.heap.size < _; simp)]; go_simp
  have t1 : w6.cell? ⟨w5.heap.size, 1, none⟩ = some (.slice p2 (woR s1 s2).length q2) := by rw [hb6.cell (by show w5.heap.size < _; simp)]; go_simp
  have hx2 := hx2C.below hb6
  have ho1 := ho1C.below hb6
  have ho2 := ho2C.below hb6
  have hB6 := bt hBC hb6
  clear hf0 hb6 hx1C hx2C ho1C ho2C hBC k0 k1 k9
  have hS := samePlacement (woL l s1 s2) (woL l s1 s2) _ _ (woR s1 s2) (woR s1 s2) w6 ho1 ho2
  have hS' : Calls Try.prog 14 #[.agg #[.string (woL l s1 s2), .slice p1 (woR s1 s2).length q1], .agg #[.string (woL l s1 s2), .slice p2 (woR s1 s2).length q2]] w6 fun e w' => e = .returned (.bool true) ∧ Below w6.heap.size w6 w' :=
    hS.mono fun e w' ⟨he, hw⟩ => ⟨he.trans (ret_bool (by simp)), hw⟩
  have hH := hasStr _ s2 l w6 hx2
  have hE : ∀ w7, Below w6.heap.size w6 w7 → Calls Try.prog 15 #[.slice p1 (woR s1 s2).length q1, .slice pf (woR s1 s2).length qf] w7 fun e w' => e = .returned (.bool true) ∧ ∃ q, w' = w7.drewN q := fun w7 h7 =>
    (eqStrs _ _ _ _ w7 (ho1.below h7) (hf.below h7)).mono fun e w' ⟨he, hw⟩ => ⟨he.trans (ret_bool (by simp)), hw⟩
  have HE : Hid (∀ w7, Below w6.heap.size w6 w7 → Calls Try.prog 15 #[.slice p1 (woR s1 s2).length q1, .slice pf (woR s1 s2).length qf] w7 fun e w' => e = .returned (.bool true) ∧ ∃ q, w' = w7.drewN q) := hE
  have hm0 := World.block_lt_of_cell? w6 _ m0
  have hwl : (woR s1 s2).length < s1.length → woL l s1 s2 = if Lib.containsS s2 l then ByteArray.empty else l := fun h => by unfold woL; rw [if_neg (by omega)]
  have hwe : ¬ (woR s1 s2).length < s1.length → woL l s1 s2 = l := fun h => by unfold woL; rw [if_pos (by omega)]
  clear hS hE hf ho1 ho2 hx2
  generalize woL l s1 s2 = L1 at *
  generalize woR s1 s2 = R1 at *
  by_cases hlt : R1.length < s1.length
  · have hw1 := hwl hlt
    clear hwl hwe
    cases hcon : Lib.containsS s2 l with
    | true =>
      rw [hcon] at hw1 hH
      simp only [if_true] at hw1
      subst hw1
      clear hcon
      go_wp2_with (first
        | (go_at_call 9; refine hH.mono ?_; rintro e w' ⟨rfl, hw⟩; subst w')
        | (go_at_call 14; refine hS'.mono ?_; rintro e w7 ⟨rfl, h7⟩; have n0 := h7.cell (p := ⟨w4.heap.size, 0, none⟩) hm0; have n1 := h7.cell (p := ⟨w4.heap.size, 1, none⟩) hm0; rw [m0] at n0; rw [m1] at n1)
        | (go_at_call 15; refine (HE.out _ (by assumption)).mono ?_; rintro e w8 ⟨rfl, q8, hw8⟩; subst w8))
      go_ret
      exact ⟨rfl, (bt hB6 h7).trans ⟨rfl, rfl, rfl, Nat.le_refl _, fun _ _ => rfl⟩⟩
    | false =>
      rw [hcon] at hw1 hH
      simp only [Bool.false_eq_true, if_false] at hw1
      subst hw1
      clear hcon
      go_wp2_with (first
        | (go_at_call 9; refine hH.mono ?_; rintro e w' ⟨rfl, hw⟩; subst w')
        | (go_at_call 14; refine hS'.mono ?_; rintro e w7 ⟨rfl, h7⟩; have n0 := h7.cell (p := ⟨w4.heap.size, 0, none⟩) hm0; have n1 := h7.cell (p := ⟨w4.heap.size, 1, none⟩) hm0; rw [m0] at n0; rw [m1] at n1)
        | (go_at_call 15; refine (HE.out _ (by assumption)).mono ?_; rintro e w8 ⟨rfl, q8, hw8⟩; subst w8))
      go_ret
      exact ⟨rfl, (bt hB6 h7).trans ⟨rfl, rfl, rfl, Nat.le_refl _, fun _ _ => rfl⟩⟩
  · have hw1 := hwe hlt
    clear hwl hwe
    subst hw1
    go_wp2_with (first
      | (go_at_call 9; refine hH.mono ?_; rintro e w' ⟨rfl, hw⟩; subst w')
      | (go_at_call 14; refine hS'.mono ?_; rintro e w7 ⟨rfl, h7⟩; have n0 := h7.cell (p := ⟨w4.heap.size, 0, none⟩) hm0; have n1 := h7.cell (p := ⟨w4.heap.size, 1, none⟩) hm0; rw [m0] at n0; rw [m1] at n1)
      | (go_at_call 15; refine (HE.out _ (by assumption)).mono ?_; rintro e w8 ⟨rfl, q8, hw8⟩; subst w8))
    go_ret
    exact ⟨rfl, (bt hB6 h7).trans ⟨rfl, rfl, rfl, Nat.le_refl _, fun _ _ => rfl⟩⟩

/-- FnWithoutIdempotent returns true; nothing that was there turns. -/
theorem idem (l : ByteArray) (v1 v2 : Value) (s1 s2 : List ByteArray) (w : World) (h1 : SH w v1 s1) (h2 : SH w v2 s2) :
    Calls Try.prog 4 #[.string l, v1, v2] w fun e w' => e = .returned (.bool true) ∧ Below w.heap.size w w' := by
  by_cases hbig : 65536 < l.size ∨ 65536 < s1.length ∨ 65536 < s2.length
  · exact idem_big l v1 v2 s1 s2 w h1 h2 hbig
  · exact idem_main l v1 v2 s1 s2 w h1 h2 (by omega) (by omega) (by omega)

end Go.Proofs.Qxb6612939a
