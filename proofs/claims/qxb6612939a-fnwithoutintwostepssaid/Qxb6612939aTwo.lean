/-
  FnWithoutInTwoSteps: the plain law and the walk.
-/
import Derived.Test.Qxb6612939aCat
namespace Go.Proofs.Qxb6612939a
open Go.RowKit

theorem cont_append (r1 r2 : List ByteArray) (x : ByteArray) : Lib.containsS (r1 ++ r2) x = (Lib.containsS r1 x || Lib.containsS r2 x) := by
  rw [Bool.eq_iff_iff, Bool.or_eq_true, Lib.containsS_iff, Lib.containsS_iff, Lib.containsS_iff, List.mem_append]

theorem woR_two (ss r1 r2 : List ByteArray) : woR (woR ss r1) r2 = woR ss (r1 ++ r2) := by
  unfold woR
  rw [List.filter_filter]
  congr 1
  funext x
  rw [cont_append]
  cases Lib.containsS r1 x <;> cases Lib.containsS r2 x <;> rfl

/-- Where the leader is a replica on a removed node, something is dropped. -/
theorem drops {l : ByteArray} {ss rs : List ByteArray} (hs : Lib.containsS ss l = true) (hr : Lib.containsS rs l = true) : ¬ (woR ss rs).length = ss.length := by
  intro h
  have e := wo_same h
  rw [Lib.containsS_iff] at hs
  rw [← e] at hs
  unfold woR at hs
  rw [List.mem_filter] at hs
  rw [hr] at hs
  simp at hs

/-- What Without does to a leader that is empty or a replica. -/
theorem woL_eq {l : ByteArray} {ss rs : List ByteArray} (h : l = ByteArray.empty ∨ Lib.containsS ss l = true) : woL l ss rs = if Lib.containsS rs l then ByteArray.empty else l := by
  unfold woL
  cases hr : Lib.containsS rs l with
  | false => simp
  | true =>
    rcases h with rfl | hs
    · simp
    · rw [if_neg (drops hs hr)]

theorem woL_two {l : ByteArray} {ss r1 r2 : List ByteArray} (h : l = ByteArray.empty ∨ Lib.containsS ss l = true) :
    woL (woL l ss r1) (woR ss r1) r2 = if Lib.containsS (r1 ++ r2) l then ByteArray.empty else l := by
  rw [woL_eq h, cont_append]
  cases h1 : Lib.containsS r1 l with
  | true =>
    simp only [if_true, Bool.true_or]
    rw [woL_eq (.inl rfl)]
    split <;> rfl
  | false =>
    simp only [Bool.false_eq_true, if_false, Bool.false_or]
    refine woL_eq ?_
    rcases h with h | h
    · exact .inl h
    · right
      rw [Lib.containsS_iff] at h ⊢
      unfold woR
      rw [List.mem_filter, h1]
      exact ⟨h, rfl⟩

theorem bt {a b c : World} (h : Below a.heap.size a b) (k : Below b.heap.size b c) : Below a.heap.size a c := h.trans (k.mono h.size)
theorem woR_le (ss rs : List ByteArray) : (woR ss rs).length ≤ ss.length := List.length_filter_le _ _
theorem empty_of_toList {l : ByteArray} (h : l.toList = []) : l = ByteArray.empty := by
  refine (Lib.bytes_beq_iff l ByteArray.empty).1 ?_
  rw [h, show ByteArray.empty.toList = [] by simp [ByteArray.toList_eq]]
  rfl
theorem cond_of1 {l : ByteArray} {ss : List ByteArray} (h : l.toList = []) : Hid (l = ByteArray.empty ∨ Lib.containsS ss l = true) := .inl (empty_of_toList h)
theorem cond_of2 {l : ByteArray} {ss : List ByteArray} (h : (!l.toList.isEmpty) = false ∨ (!Lib.containsS ss l) = false) : Hid (l = ByteArray.empty ∨ Lib.containsS ss l = true) := by
  rcases h with h | h
  · exact .inl (empty_of_toList (by simpa using h))
  · exact .inr (by simpa using h)

set_option maxHeartbeats 2000000 in
theorem two_big (l : ByteArray) (v0 v1 v2 : Value) (s0 s1 s2 : List ByteArray) (w : World) (h0 : SH w v0 s0) (h1 : SH w v1 s1) (h2 : SH w v2 s2)
    (hbig : 65536 < l.size ∨ 65536 < s0.length ∨ 65536 < s1.length ∨ 65536 < s2.length) :
    Calls Try.prog 3 #[.string l, v0, v1, v2] w fun e w' => e = .returned (.bool true) ∧ Below w.heap.size w w' := by
  have hb := bytes3 l v0 v1 v2 s0 s1 s2 w h0 h1 h2
  obtain ⟨a0, c0, rfl⟩ := h0.shape
  obtain ⟨a1, c1, rfl⟩ := h1.shape
  obtain ⟨a2, c2, rfl⟩ := h2.shape
  clear h0 h1 h2
  go_enter Try.func3, Try.ntmps3
  go_wp2_with (go_at_call 7; refine hb.mono ?_; rintro e w' ⟨⟨r, rfl⟩, hw⟩; subst w')
  all_goals first | (go_ret; exact ⟨rfl, Below.refl _ _⟩) | skip
  all_goals (exfalso; omega)

set_option maxHeartbeats 2000000 in
theorem two_main (l : ByteArray) (v0 v1 v2 : Value) (s0 s1 s2 : List ByteArray) (w : World) (h0 : SH w v0 s0) (h1 : SH w v1 s1) (h2 : SH w v2 s2)
    (hl : l.size ≤ 65536) (hl0 : s0.length ≤ 65536) (hl1 : s1.length ≤ 65536) (hl2 : s2.length ≤ 65536) :
    Calls Try.prog 3 #[.string l, v0, v1, v2] w fun e w' => e = .returned (.bool true) ∧ Below w.heap.size w w' := by
  have hb := bytes3 l v0 v1 v2 s0 s1 s2 w h0 h1 h2
  have hs0 := fun at0 => strsBytes at0 v0 s0 w h0
  have hs1 := fun at0 => strsBytes at0 v1 s1 w h1
  have hs2 := fun at0 => strsBytes at0 v2 s2 w h2
  have hh := hasStr v0 s0 l w h0
  have hc0 := clone v0 s0 w h0 (by omega)
  obtain ⟨a0, c0, rfl⟩ := h0.shape
  obtain ⟨a1, c1, rfl⟩ := h1.shape
  obtain ⟨a2, c2, rfl⟩ := h2.shape
  go_enter Try.func3, Try.ntmps3
  go_wp2_with (first
    | (go_at_call 7; refine hb.mono ?_; rintro e w' ⟨⟨r, rfl⟩, hw⟩; subst w')
    | (go_at_call_of 8 (Value.slice a0 s0.length c0); refine (hs0 _).mono ?_; rintro e w' ⟨⟨r0, rfl⟩, hw⟩; subst w')
    | (go_at_call_of 8 (Value.slice a1 s1.length c1); refine (hs1 _).mono ?_; rintro e w' ⟨⟨r1, rfl⟩, hw⟩; subst w')
    | (go_at_call_of 8 (Value.slice a2 s2.length c2); refine (hs2 _).mono ?_; rintro e w' ⟨⟨r2, rfl⟩, hw⟩; subst w')
    | (go_at_call 9; refine hh.mono ?_; rintro e w' ⟨rfl, hw⟩; subst w'))
  all_goals first | (go_ret; exact ⟨rfl, Below.refl _ _⟩) | skip
  all_goals have hcond : Hid (l = ByteArray.empty ∨ Lib.containsS s0 l = true) := by first | exact cond_of1 (by assumption) | exact cond_of2 (by assumption)
  all_goals
    clear hb hs0 hs1 hs2 hh
    refine hc0.mono ?_
    rintro e w1 ⟨x0, rfl, hx0, hb1⟩
    obtain ⟨y0, z0, rfl⟩ := hx0.shape
    have h1' := h1.below hb1
    have h2' := h2.below hb1
    clear hc0 h0 h1 h2
    go_wp2_with fail
    refine (cloneZ _ s1 w1 h1' (by omega)).mono ?_
    rintro e w2 ⟨x1, rfl, hx1, hb2, hz1⟩
    obtain ⟨y1, z1, rfl⟩ := hx1.shape
    have HZ1 : Hid _ := hz1
    have hx0' := hx0.below hb2
    have h2'' := h2'.below hb2
    have hB := bt hb1 hb2
    clear h1' h2' hx0 hb1 hb2 hz1
    go_wp2_with fail
    refine (cloneZ _ s2 w2 h2'' (by omega)).mono ?_
    rintro e w3 ⟨x2, rfl, hx2, hb3, hz2⟩
    obtain ⟨y2, z2, rfl⟩ := hx2.shape
    have HZ2 : Hid _ := hz2
    have hx0 := hx0'.below hb3
    have hx1' := hx1.below hb3
    have hB3 := bt hB hb3
    clear h2'' hx0' hx1 hB hb3 hz2
    go_wp2_with fail
    refine (cat _ _ s1 s2 w3 hx1' hx2 (by omega) (by omega) HZ1.out HZ2.out).mono ?_
    generalize hsb : s1 ++ s2 = sb
    have HSB : Hid (s1 ++ s2 = sb) := hsb
    clear hsb
    rintro e w4 ⟨xb, rfl, hxb, hb4⟩
    obtain ⟨yb, zb, rfl⟩ := hxb.shape
    have hx0' := hx0.below hb4
    have hx1 := hx1'.below hb4
    have hx2' := hx2.below hb4
    have hB4 := bt hB3 hb4
    clear HZ1 HZ2 hx0 hx1' hx2 hB3 hb4
    go_wp2_with fail
    refine (clone _ s0 w4 hx0' (by omega)).mono ?_
    rintro e w5 ⟨x3, rfl, hx3, hb5⟩
    obtain ⟨y3, z3, rfl⟩ := hx3.shape
    have hx0 := hx0'.below hb5
    have hx1' := hx1.below hb5
    have hx2 := hx2'.below hb5
    have hxb' := hxb.below hb5
    have hB5 := bt hB4 hb5
    clear hx0' hx1 hx2' hxb hB4 hb5
    have bA : Below w5.heap.size w5 (w5.alloc (.cells #[.string l, .slice y3 s0.length z3] 29)) := (Below.refl _ _).alloc (Nat.le_refl _) _
    have hx0A := hx0.below bA
    have hx1A := hx1'.below bA
    have hx2A := hx2.below bA
    have hxbA := hxb'.below bA
    have hx3A := hx3.below bA
    have hBA := bt hB5 bA
    clear hx0 hx1' hx2 hxb' hx3 hB5 bA
    go_wp2_with fail
    refine (zzWithout l _ s0 _ s1 _ hx3A (by omega) hx1A).mono ?_
    rintro e w6 ⟨o1, rfl, ho1, hb6⟩
    obtain ⟨p1, q1, rfl⟩ := ho1.shape
    have k0 : w6.cell? ⟨w5.heap.size, 0, none⟩ = some (.string l) := by rw [hb6.cell (by show w5.heap.size < _; simp)]; go_simp
    have k1 : w6.cell? ⟨w5.heap.size, 1, none⟩ = some (.slice y3 s0.length z3) := by rw [hb6.cell (by show w5.heap.size < _; simp)]; go_simp
    have k9 : w5.heap.size < w6.heap.size := by have := hb6.size; simp at this; omega
    have hx0 := hx0A.below hb6
    have hx2 := hx2A.below hb6
    have hxb := hxbA.below hb6
    have hx3 := hx3A.below hb6
    have hB6 := bt hBA hb6
    have hwle := woR_le s0 s1
    clear hx0A hx1A hx2A hxbA hx3A hBA hb6
    go_wp2_with fail
    refine (zzWithout _ _ (woR s0 s1) _ s2 _ ho1 (by omega) hx2).mono ?_
    rw [woR_two, woL_two hcond.out, HSB.out]
    rintro e w7 ⟨o2, rfl, ho2, hb7⟩
    obtain ⟨p2, q2, rfl⟩ := ho2.shape
    have m0 : w7.cell? ⟨w5.heap.size, 0, none⟩ = some (.string l) := by rw [hb7.cell (by exact k9)]; exact k0
    have m1 : w7.cell? ⟨w5.heap.size, 1, none⟩ = some (.slice y3 s0.length z3) := by rw [hb7.cell (by exact k9)]; exact k1
    have m9 : w5.heap.size < w7.heap.size := by have := hb7.size; omega
    have hx0' := hx0.below hb7
    have hxb' := hxb.below hb7
    have hx3' := hx3.below hb7
    have hB7 := bt hB6 hb7
    clear hx0 hx2 hxb hx3 ho1 hB6 hb7 k0 k1 k9
    generalize hLd : (if Lib.containsS sb l then ByteArray.empty else l) = L at *
    have HLd : Hid _ := hLd
    clear hLd
    have bC : Below w7.heap.size w7 (w7.alloc (.cells #[.string L, .slice p2 (woR s0 sb).length q2] 29)) := (Below.refl _ _).alloc (Nat.le_refl _) _
    have hx0C := hx0'.below bC
    have hxbC := hxb'.below bC
    have hx3C := hx3'.below bC
    have ho2C := ho2.below bC
    have hBC := bt hB7 bC
    clear hx0' hxb' hx3' ho2 hB7 bC
    go_wp2_with fail
    refine (zzWithout _ _ s0 _ sb _ hx3C (by omega) hxbC).mono ?_
    rw [woL_eq hcond.out, HLd.out]
    rintro e w8 ⟨o3, rfl, ho3, hb8⟩
    obtain ⟨p3, q3, rfl⟩ := ho3.shape
    have n0 : w8.cell? ⟨w7.heap.size, 0, none⟩ = some (.string L) := by rw [hb8.cell (by show w7.heap.size < _; simp)]; go_simp
    have n1 : w8.cell? ⟨w7.heap.size, 1, none⟩ = some (.slice p2 (woR s0 sb).length q2) := by rw [hb8.cell (by show w7.heap.size < _; simp)]; go_simp
    have n9 : w7.heap.size < w8.heap.size := by have := hb8.size; simp at this; omega
    have hx0 := hx0C.below hb8
    have hxb := hxbC.below hb8
    have ho2 := ho2C.below hb8
    have hB8 := bt hBC hb8
    clear hx0C hxbC hx3C ho2C hBC hb8 m0 m1 m9
    have bD : Below w8.heap.size w8 (w8.alloc (.cells #[.string L, .slice p3 (woR s0 sb).length q3] 29)) := (Below.refl _ _).alloc (Nat.le_refl _) _
    have hx0D := hx0.below bD
    have hxbD := hxb.below bD
    have ho2D := ho2.below bD
    have ho3D := ho3.below bD
    have hBD := bt hB8 bD
    clear hx0 hxb ho2 ho3 hB8 bD
    go_wp2_with fail
    refine (filter _ _ s0 sb _ hx0D hxbD (by omega)).mono ?_
    rintro e w9 ⟨f, rfl, hf0, hb9⟩
    have hf : SH w9 f (woR s0 sb) := hf0
    obtain ⟨pf, qf, rfl⟩ := hf.shape
    have j0 : w9.cell? ⟨w7.heap.size, 0, none⟩ = some (.string L) := by rw [hb9.cell (by show w7.heap.size < _; simp; omega)]; go_simp
    have j1 : w9.cell? ⟨w7.heap.size, 1, none⟩ = some (.slice p2 (woR s0 sb).length q2) := by rw [hb9.cell (by show w7.heap.size < _; simp; omega)]; go_simp
    have t0 : w9.cell? ⟨w8.heap.size, 0, none⟩ = some (.string L) := by rw [hb9.cell (by show w8.heap.size < _; simp)]; go_simp
    have t1 : w9.cell? ⟨w8.heap.size, 1, none⟩ = some (.slice p3 (woR s0 sb).length q3) := by rw [hb9.cell (by show w8.heap.size < _; simp)]; go_simp
    have hxb := hxbD.below hb9
    have ho2 := ho2D.below hb9
    have ho3 := ho3D.below hb9
    have hB9 := bt hBD hb9
    clear hf0 hb9 hx0D hxbD ho2D ho3D hBD n0 n1 n9
    have hH := hasStr _ sb l w9 hxb
    have hS' : Calls Try.prog 14 #[.agg #[.string L, .slice p2 (woR s0 sb).length q2], .agg #[.string L, .slice p3 (woR s0 sb).length q3]] w9 fun e w' => e = .returned (.bool true) ∧ Below w9.heap.size w9 w' :=
      (samePlacement L L _ _ _ _ w9 ho2 ho3).mono fun e w' ⟨he, hw⟩ => ⟨he.trans (ret_bool (by simp)), hw⟩
    have HE : Hid (∀ w10, Below w9.heap.size w9 w10 → Calls Try.prog 15 #[.slice p3 (woR s0 sb).length q3, .slice pf (woR s0 sb).length qf] w10 fun e w' => e = .returned (.bool true) ∧ ∃ q, w' = w10.drewN q) := fun w10 h10 =>
      (eqStrs _ _ _ _ w10 (ho3.below h10) (hf.below h10)).mono fun e w' ⟨he, hw⟩ => ⟨he.trans (ret_bool (by simp)), hw⟩
    have hm0 := World.block_lt_of_cell? w9 _ t0
    clear hf ho2 ho3 hxb
    generalize woR s0 sb = R1 at *
    have hw1 := HLd.out
    clear HLd
    cases hcon : Lib.containsS sb l with
    | true =>
      rw [hcon] at hw1 hH
      simp only [if_true] at hw1
      subst hw1
      clear hcon
      go_wp2_with (first
        | (go_at_call 9; refine hH.mono ?_; rintro e w' ⟨rfl, hw⟩; subst w')
        | (go_at_call 14; refine hS'.mono ?_; rintro e w10 ⟨rfl, h10⟩; have g0 := h10.cell (p := ⟨w8.heap.size, 0, none⟩) hm0; have g1 := h10.cell (p := ⟨w8.heap.size, 1, none⟩) hm0; rw [t0] at g0; rw [t1] at g1)
        | (go_at_call 15; refine (HE.out _ (by assumption)).mono ?_; rintro e w11 ⟨rfl, q11, hw11⟩; subst w11))
      go_ret
      exact ⟨rfl, (bt hB9 h10).trans ⟨rfl, rfl, rfl, Nat.le_refl _, fun _ _ => rfl⟩⟩
    | false =>
      rw [hcon] at hw1 hH
      simp only [Bool.false_eq_true, if_false] at hw1
      subst hw1
      clear hcon
      go_wp2_with (first
        | (go_at_call 9; refine hH.mono ?_; rintro e w' ⟨rfl, hw⟩; subst w')
        | (go_at_call 14; refine hS'.mono ?_; rintro e w10 ⟨rfl, h10⟩; have g0 := h10.cell (p := ⟨w8.heap.size, 0, none⟩) hm0; have g1 := h10.cell (p := ⟨w8.heap.size, 1, none⟩) hm0; rw [t0] at g0; rw [t1] at g1)
        | (go_at_call 15; refine (HE.out _ (by assumption)).mono ?_; rintro e w11 ⟨rfl, q11, hw11⟩; subst w11))
      go_ret
      exact ⟨rfl, (bt hB9 h10).trans ⟨rfl, rfl, rfl, Nat.le_refl _, fun _ _ => rfl⟩⟩

/-- FnWithoutInTwoSteps returns true; nothing that was there turns. -/
theorem twoSteps (l : ByteArray) (v0 v1 v2 : Value) (s0 s1 s2 : List ByteArray) (w : World) (h0 : SH w v0 s0) (h1 : SH w v1 s1) (h2 : SH w v2 s2) :
    Calls Try.prog 3 #[.string l, v0, v1, v2] w fun e w' => e = .returned (.bool true) ∧ Below w.heap.size w w' := by
  by_cases hbig : 65536 < l.size ∨ 65536 < s0.length ∨ 65536 < s1.length ∨ 65536 < s2.length
  · exact two_big l v0 v1 v2 s0 s1 s2 w h0 h1 h2 hbig
  · exact two_main l v0 v1 v2 s0 s1 s2 w h0 h1 h2 (by omega) (by omega) (by omega) (by omega)

end Go.Proofs.Qxb6612939a
