/-
  The closures; those, not, Without, ZZWithout; zzSamePlacement.
-/
import Derived.Test.Qxb6612939aMake
import Derived.Deep.RegionHeld3
import Derived.Deep.DeepCutAuto
namespace Go.Proofs.Qxb6612939a
open Go.RowKit

/-- ZZWithout$1: membership in the captured slice -/
theorem removed1 (x : ByteArray) (q : Addr) (v : Value) (rs : List ByteArray) (w : World) (hq : w.cell? q = some v) (h : SH w v rs) :
    Calls Try.prog 23 #[.string x, .pointer (some q)] w fun e w' => e = .returned (.bool (Lib.containsS rs x)) ∧ w' = w := by
  obtain ⟨a, c, rfl⟩ := h.shape
  go_enter Try.func23, Try.ntmps23
  go_wp2_with (go_at_call 24; refine (contains _ rs x _ h).mono ?_; rintro e w' ⟨rfl, hw⟩; subst w')
  go_ret
  exact ⟨rfl, rfl⟩

/-- not$1 over it -/
theorem not1 (x : ByteArray) (p q : Addr) (v : Value) (rs : List ByteArray) (w : World) (hp : w.cell? p = some (.func (.func 23) #[] #[.pointer (some q)])) (hq : w.cell? q = some v) (h : SH w v rs) :
    Calls Try.prog 35 #[.string x, .pointer (some p)] w fun e w' => e = .returned (.bool (!Lib.containsS rs x)) ∧ w' = w := by
  go_enter Try.func35, Try.ntmps35
  go_wp2_with (go_at_call 23; refine (removed1 x q v rs _ hq h).mono ?_; rintro e w' ⟨rfl, hw⟩; subst w')
  go_ret
  exact ⟨rfl, rfl⟩

/-- not -/
theorem not_ (fn : Fn) (a b : Array Value) (w : World) : Calls Try.prog 29 #[.func fn a b] w fun e w' => e = .returned (.func (.func 35) #[] #[.pointer (some ⟨w.heap.size, 0, none⟩)]) ∧ w' = w.alloc (.cells #[.func fn a b] 45) := by
  go_enter Try.func29, Try.ntmps29
  go_wp2
  go_ret
  exact ⟨rfl, rfl⟩

/-- What Without computes: the replicas. -/
def woR (ss rs : List ByteArray) : List ByteArray := ss.filter fun x => !Lib.containsS rs x

set_option maxHeartbeats 1000000 in
/-- those, the predicate being 'not removed' -/
theorem those (v : Value) (ss : List ByteArray) (p q : Addr) (vr : Value) (rs : List ByteArray) (w : World) (h : SH w v ss) (hl : ss.length ≤ 131072)
    (hp : w.cell? p = some (.func (.func 23) #[] #[.pointer (some q)])) (hq : w.cell? q = some vr) (hr : SH w vr rs) :
    Calls Try.prog 28 #[v, .func (.func 35) #[] #[.pointer (some p)]] w fun e w' => ∃ v', e = .returned v' ∧ SH w' v' (woR ss rs) ∧ Below w.heap.size w w' ∧ ∀ (ad : Addr) (n c : Nat), v' = .slice (some ad) n c → w.heap.size ≤ ad.block ∧ ad.block < w'.heap.size := by
  obtain ⟨a, c, rfl, hb, hc⟩ := h.gen
  obtain ⟨i0, hi, hz0, hz1, hz2⟩ := info_parts info9
  have hpl := World.block_lt_of_cell? w _ hp
  have hql := World.block_lt_of_cell? w _ hq
  generalize hn : ss.length = n at *
  have HL : Hid (ss.length = n) := hn
  clear hn h
  go_enter Try.func28, Try.ntmps28
  go_wp2
  go_loopw [5, 10] (fun out i wr => ∃ k : Nat, k ≤ n ∧ i = .int .i64 k ∧ wr.ownsRow w.heap.size 9 1 out (filt (fun x => !Lib.containsS rs x) ss k).length ((filt (fun x => !Lib.containsS rs x) ss k).map Value.string) ∧ Below w.heap.size w wr) (fun _ i _ => n - (intOf i).toNat)
  case atStart => exact ⟨0, by omega, rfl, World.ownsRow_nil _ _ _ _, Below.refl _ _⟩
  case round =>
    obtain ⟨k, hk, rfl, hown, hbl⟩ := hrel
    by_cases hlt : k < n
    · obtain ⟨b, off, e, hcell⟩ := hc k hlt
      cases e
      have hcl : wr.cell? ⟨b, off + k, none⟩ = some (.string (ss.getD k ByteArray.empty)) := by
        rw [hbl.cell (World.block_lt_of_cell? w _ hcell)]; exact hcell
      have hS := hr.below hbl
      have hp' : wr.cell? p = some (.func (.func 23) #[] #[.pointer (some q)]) := by rw [hbl.cell hpl]; exact hp
      have hq' : wr.cell? q = some vr := by rw [hbl.cell hql]; exact hq
      have hfl := filt_le (fun x => !Lib.containsS rs x) ss k
      generalize hs : ss.getD k ByteArray.empty = s at hcl
      have HS : Hid (ss.getD k ByteArray.empty = s) := hs
      clear hs hc hcell hr hp hq
      have hsz := hbl.size
      have hN := not1 s p q vr rs wr hp' hq' hS
      clear hp' hq' hS
      cases hcon : Lib.containsS rs s with
      | true =>
        have hM := filt_miss (p := fun x => !Lib.containsS rs x) (by rw [HL.out]; exact hlt) HS.out (by simp [hcon])
        have hown2 := hown
        rw [← hM] at hown2
        clear hM
        rw [hcon] at hN
        go_wp2_with (go_at_call 35; refine hN.mono ?_; rintro e w' ⟨rfl, hw⟩; subst w')
        go_roundw
        case rel => exact ⟨k + 1, by omega, by go_num, hown2, hbl⟩
        case measure => simp [intOf]; omega
      | false =>
        rw [hcon] at hN
        go_wp2_with (first
          | (go_at_call 35; refine hN.mono ?_; rintro e w' ⟨rfl, hw⟩; subst w')
          | (at_builtin; refine wpList_append_own _ rfl _ _ 22 rfl w.heap.size 9 i0 (.string ByteArray.empty) 1 16 Try.underlying22 hi hz0 hz1 hz2 rfl (by decide) _ _ _ rfl (hown.alloc _) ⟨wr.heap.size, 0, none⟩ 1 1 [.string s] rfl rfl ?c1 ?c2 ?c3 ?c4 ?c5 ?_))
        case c1 => exact cell_one_new _ _ _
        case c2 => intro u hu; simp at hu; subst hu; rfl
        case c3 => unfold maxLen; omega
        case c4 => omega
        case c5 => simp; omega
        · intro v' w1 hown' hgrow _
          have R := gather_hit (p := fun x => !Lib.containsS rs x) (by rw [HL.out]; exact hlt) HS.out (by simp [hcon]) hown' hbl _ hgrow hown
          clear hown' hgrow hown hbl
          go_wp2
          go_roundw
          case rel => exact ⟨k + 1, by omega, by go_num, R.1, R.2⟩
          case measure => simp [intOf]; omega
    · have : k = n := by omega
      subst this
      go_wp2
      go_ret
      rw [← HL.out, filt_full] at hown
      exact ⟨_, rfl, SH.of_owns hown rfl (Nat.le_trans (List.length_filter_le _ _) (by rw [HL.out]; exact hb)), hbl, fun ad n c e => hown.lt ad.block (by rw [show u5 = Value.slice (some ad) n c from e]; rfl)⟩

/-- .. and the leader. -/
def woL (l : ByteArray) (ss rs : List ByteArray) : ByteArray := if (woR ss rs).length = ss.length then l else if Lib.containsS rs l then ByteArray.empty else l

theorem bcell {W w1 : World} (hb : Below W.heap.size W w1) : (∀ b o, b < W.heap.size → w1.cell? ⟨b, o, none⟩ = W.cell? ⟨b, o, none⟩) ∧ (∀ b o, b < W.heap.size → w1.frozen? ⟨b, o, none⟩ = W.frozen? ⟨b, o, none⟩) :=
  ⟨fun b o h => hb.cell (p := ⟨b, o, none⟩) h, fun b o h => hb.frozen (p := ⟨b, o, none⟩) h⟩

/-- The two boxes that Without has laid: the receiver and the result. -/
def two (w : World) (l : ByteArray) (v : Value) : World := (w.alloc (.cells #[.string l, v] 29)).alloc (.cells #[.string { data := #[] }, .slice none 0 0] 29)

theorem two_below (w : World) (l : ByteArray) (v : Value) : Below w.heap.size w (two w l v) := ((Below.refl _ w).alloc (Nat.le_refl _) _).alloc (by simp) _
theorem two_size (w : World) (l : ByteArray) (v : Value) : (two w l v).heap.size = w.heap.size + 2 := by simp [two]

theorem keep_of {w W : World} {l : ByteArray} {v : Value} (hb : Below (w.heap.size + 2) (two w l v) W) :
    W.cell? ⟨w.heap.size, 0, none⟩ = some (.string l) ∧ W.cell? ⟨w.heap.size, 1, none⟩ = some v ∧ Below (w.heap.size + 2) (two w l v) W := by
  refine ⟨?_, ?_, hb⟩
  · rw [hb.cell (by show w.heap.size < _; omega)]; unfold two; go_simp
  · rw [hb.cell (by show w.heap.size < _; omega)]; unfold two; go_simp

theorem bel_of {w W : World} {l : ByteArray} {v : Value} (hS : W.cell? ⟨w.heap.size, 0, none⟩ = some (.string l) ∧ W.cell? ⟨w.heap.size, 1, none⟩ = some v ∧ Below (w.heap.size + 2) (two w l v) W) : Below w.heap.size w W :=
  (two_below w l v).trans (hS.2.2.mono (by omega))
theorem two_le {w W : World} {l : ByteArray} {v : Value} (hS : W.cell? ⟨w.heap.size, 0, none⟩ = some (.string l) ∧ W.cell? ⟨w.heap.size, 1, none⟩ = some v ∧ Below (w.heap.size + 2) (two w l v) W) : w.heap.size + 2 ≤ W.heap.size := by
  have := hS.2.2.size; rw [two_size] at this; exact this

theorem SH.setCell {w : World} {a : Option Addr} {n c : Nat} {ss : List ByteArray} (h : SH w (.slice a n c) ss) (p : Addr) (u : Value) (hne : ∀ ad : Addr, a = some ad → ad.block ≠ p.block) : SH (w.setCell p u) (.slice a n c) ss := by
  obtain ⟨hl, ⟨e, a', c', e'⟩ | ⟨b, off, c', e', hc⟩⟩ := h
  · exact ⟨hl, .inl ⟨e, a', c', e'⟩⟩
  · refine ⟨hl, .inr ⟨b, off, c', e', fun i hi => ?_⟩⟩
    have hb : b ≠ p.block := hne ⟨b, off, none⟩ (by simp at e'; exact e'.1)
    rw [World.cell?_of_block (w := w) (Below.heap_setCell w p u b hb)]
    exact hc i hi

theorem wo_same {ss rs : List ByteArray} (h : (woR ss rs).length = ss.length) : woR ss rs = ss := by
  unfold woR at *
  rw [List.length_filter_eq_length_iff] at h
  exact List.filter_eq_self.2 h

set_option maxHeartbeats 1000000 in
theorem without (l : ByteArray) (v : Value) (ss : List ByteArray) (q : Addr) (vr : Value) (rs : List ByteArray) (w : World) (h : SH w v ss) (hl : ss.length ≤ 131072) (hq : w.cell? q = some vr) (hr : SH w vr rs) :
    Calls Try.prog 22 #[.agg #[.string l, v], .func (.func 23) #[] #[.pointer (some q)]] w fun e w' => ∃ v', e = .returned (.agg #[.string (woL l ss rs), v']) ∧ SH w' v' (woR ss rs) ∧ Below w.heap.size w w' ∧ (v' = v ∧ woR ss rs = ss ∨ ∀ (ad : Addr) (n c : Nat), v' = .slice (some ad) n c → w.heap.size ≤ ad.block) := by
  obtain ⟨a, c, rfl⟩ := h.shape
  have hql := World.block_lt_of_cell? w _ hq
  go_enter Try.func22, Try.ntmps22
  go_wp2
  go_cut [5] (fun s5 wx => ∃ B a2 c2, s5 = .pointer (some ⟨B, 0, none⟩) ∧ w.heap.size + 2 ≤ B ∧ wx.cell? ⟨B, 0, none⟩ = some (.string l) ∧ wx.cell? ⟨B, 1, none⟩ = some (.slice a2 (woR ss rs).length c2) ∧ wx.frozen? ⟨B, 0, none⟩ = false ∧ SH wx (.slice a2 (woR ss rs).length c2) (woR ss rs) ∧
    (∀ ad : Addr, a2 = some ad → ad.block ≠ B ∧ w.heap.size + 2 ≤ ad.block) ∧ Below (w.heap.size + 2) (two w l (.slice a ss.length c)) wx)
  case first =>
    go_region_held3 (fun W => W.cell? ⟨w.heap.size, 0, none⟩ = some (.string l) ∧ W.cell? ⟨w.heap.size, 1, none⟩ = some (.slice a ss.length c) ∧ Below (w.heap.size + 2) (two w l (.slice a ss.length c)) W)
      ((refine keep_of ?_; (repeat (first | exact Below.refl _ _ | exact (by assumption : Hid (Below _ _ _)).out | exact (by assumption : _ ∧ _ ∧ Below _ _ _).2.2 | exact Below.trans (by assumption : _ ∧ _ ∧ Below _ _ _).2.2 (Below.mono (by assumption) (two_le (by assumption))) | apply Below.drew | (refine Below.alloc ?_ (by first | omega | (simp <;> omega)) _) | (refine Below.setCell ?_ (by first | omega | (simp <;> omega)) _)))))
      (first
        | (go_at_call 29; refine (not_ _ _ _ _).mono ?_; rintro e w' ⟨rfl, rfl⟩)
        | (go_at_call 28; refine (those _ ss _ q vr rs _ ?_ hl ?_ ?_ ?_).mono ?_; exact h.below (bel_of (by assumption)); exact (by go_simp); exact ((bel_of (by assumption)).cell hql).trans hq; exact hr.below (bel_of (by assumption)); rintro e w' ⟨v', rfl, hsh, hbw, hob⟩; obtain ⟨a2, c2, rfl⟩ := hsh.shape; have hzz := Nat.le_trans (two_le (by assumption)) hbw.size; have hB2 := (show Hid (Below (w.heap.size + 2) (two w l (.slice a ss.length c)) w') from Below.trans (by assumption : _ ∧ _ ∧ Below _ _ _).2.2 (Below.mono hbw (two_le (by assumption)))); (try have m20 : w'.cell? ⟨w.heap.size + 1 + 1, 0, none⟩ = some (.string { data := #[] }) := by rw [hbw.cell (by simp <;> omega)]; go_simp); (try have m21 : w'.cell? ⟨w.heap.size + 1 + 1, 1, none⟩ = some (.slice none 0 0) := by rw [hbw.cell (by simp <;> omega)]; go_simp); (try have m30 : w'.cell? ⟨w.heap.size + 1 + 1 + 1, 0, none⟩ = some (.string { data := #[] }) := by rw [hbw.cell (by simp <;> omega)]; go_simp); (try have m31 : w'.cell? ⟨w.heap.size + 1 + 1 + 1, 1, none⟩ = some (.slice none 0 0) := by rw [hbw.cell (by simp <;> omega)]; go_simp); (try have f20 : w'.frozen? ⟨w.heap.size + 1 + 1, 0, none⟩ = false := by rw [hbw.frozen (by simp <;> omega)]; go_simp); (try have f21 : w'.frozen? ⟨w.heap.size + 1 + 1, 1, none⟩ = false := by rw [hbw.frozen (by simp <;> omega)]; go_simp); (try have f30 : w'.frozen? ⟨w.heap.size + 1 + 1 + 1, 0, none⟩ = false := by rw [hbw.frozen (by simp <;> omega)]; go_simp); (try have f31 : w'.frozen? ⟨w.heap.size + 1 + 1 + 1, 1, none⟩ = false := by rw [hbw.frozen (by simp <;> omega)]; go_simp)))
    all_goals (go_wp2_with fail; go_meet)
    case rel =>
      refine ⟨w'.heap.size, a2, c2, rfl, hzz, by go_simp, by go_simp, by go_simp, hsh.below ((Below.refl _ _).alloc (Nat.le_refl _) _), fun ad e => ?_, hB2.out.alloc hzz _⟩
      have := hob ad _ _ (by rw [e])
      simp at this
      omega
    case rel =>
      refine ⟨w.heap.size + 1 + 1 + 1, a2, c2, rfl, by omega, by go_simp, by go_simp, by go_simp, ?_, fun ad e => ?_, (hB2.out.setCell (by show w.heap.size + 2 ≤ w.heap.size + 1 + 1 + 1; omega) _).setCell (by show w.heap.size + 2 ≤ w.heap.size + 1 + 1 + 1; omega) _⟩
      · refine (hsh.setCell _ _ fun ad e => ?_).setCell _ _ fun ad e => ?_
        all_goals
          have := hob ad _ _ (by rw [e])
          simp at this
          show ad.block ≠ w.heap.size + 1 + 1 + 1
          omega
      · have := hob ad _ _ (by rw [e])
        simp at this
        omega
    case rel =>
      refine ⟨w.heap.size + 1 + 1, a2, c2, rfl, by omega, by go_simp, by go_simp, by go_simp, ?_, fun ad e => ?_, (hB2.out.setCell (by show w.heap.size + 2 ≤ w.heap.size + 1 + 1; omega) _).setCell (by show w.heap.size + 2 ≤ w.heap.size + 1 + 1; omega) _⟩
      · refine (hsh.setCell _ _ fun ad e => ?_).setCell _ _ fun ad e => ?_
        all_goals
          have := hob ad _ _ (by rw [e])
          simp at this
          show ad.block ≠ w.heap.size + 1 + 1
          omega
      · have := hob ad _ _ (by rw [e])
        simp at this
        omega
  case rest =>
    obtain ⟨B, a2, c2, rfl, hB, h0, h1, hf, hs, hne, hbl⟩ := hcut
    unfold two at hbl
    have k0 : wc.cell? ⟨w.heap.size, 0, none⟩ = some (.string l) := by rw [hbl.cell (by show w.heap.size < _; omega)]; go_simp
    have k1 : wc.cell? ⟨w.heap.size, 1, none⟩ = some (.slice a ss.length c) := by rw [hbl.cell (by show w.heap.size < _; omega)]; go_simp
    have r0 : wc.cell? ⟨w.heap.size + 1, 0, none⟩ = some (.string { data := #[] }) := by rw [hbl.cell (by show w.heap.size + 1 < _; omega)]; go_simp
    have r1 : wc.cell? ⟨w.heap.size + 1, 1, none⟩ = some (.slice none 0 0) := by rw [hbl.cell (by show w.heap.size + 1 < _; omega)]; go_simp
    have f0 : wc.frozen? ⟨w.heap.size + 1, 0, none⟩ = false := by rw [hbl.frozen (by show w.heap.size + 1 < _; omega)]; go_simp
    have f1 : wc.frozen? ⟨w.heap.size + 1, 1, none⟩ = false := by rw [hbl.frozen (by show w.heap.size + 1 < _; omega)]; go_simp
    have hq' : wc.cell? q = some vr := by
      rw [hbl.cell (by show q.block < _; omega), (((Below.refl _ w).alloc (Nat.le_refl _) _).alloc (by simp) _).cell hql]; exact hq
    have hr' : SH wc vr rs := hr.below ((((Below.refl _ w).alloc (Nat.le_refl _) _).alloc (by simp) _).trans (hbl.mono (by omega)))
    have hN := removed1 l q vr rs wc hq' hr'
    have hb2 : Below w.heap.size w wc := (two_below w l (.slice a ss.length c)).trans (hbl.mono (by omega))
    clear hbl hq hr hq' hr'
    by_cases e : (woR ss rs).length = ss.length
    · have HE : Hid ((woR ss rs).length = ss.length) := e
      have hE : (((woR ss rs).length : Int) == (ss.length : Int)) = true := by simp; omega
      clear e
      go_wp2
      refine bodyPost_ret (v := .agg #[.string l, .slice a ss.length c]) (by simp [results, Try.results22, go_sem, r0, r1]) rfl ⟨.slice a ss.length c, ?_, ?_, ?_, Or.inl ⟨rfl, wo_same HE.out⟩⟩
      · unfold woL; rw [if_pos HE.out]
      · rw [wo_same HE.out]; exact h.below ((hb2.setCell (by show w.heap.size ≤ w.heap.size + 1; omega) _).setCell (by show w.heap.size ≤ w.heap.size + 1; omega) _)
      · exact (hb2.setCell (by show w.heap.size ≤ w.heap.size + 1; omega) _).setCell (by show w.heap.size ≤ w.heap.size + 1; omega) _
    · have HE : Hid (¬ (woR ss rs).length = ss.length) := e
      have hE : (((woR ss rs).length : Int) == (ss.length : Int)) = false := by simp; omega
      clear e
      have hn1 : ∀ ad : Addr, a2 = some ad → ad.block ≠ w.heap.size + 1 := fun ad e => by have := hne ad e; omega
      have hn2 : ∀ ad : Addr, a2 = some ad → ad.block ≠ B := fun ad e => (hne ad e).1
      have hn3 : ∀ (ad : Addr) (n c : Nat), Value.slice a2 (woR ss rs).length c2 = .slice (some ad) n c → w.heap.size ≤ ad.block := fun ad n c e => by have := (hne ad (by cases e; rfl)).2; omega
      clear hne
      cases hcon : Lib.containsS rs l with
      | true =>
        rw [hcon] at hN
        have HC : Hid (Lib.containsS rs l = true) := hcon
        clear hcon
        go_wp2_with (go_at_call 23; refine hN.mono ?_; rintro e w' ⟨rfl, hw⟩; subst w')
        refine bodyPost_ret (v := .agg #[.string { data := #[] }, .slice a2 (woR ss rs).length c2]) (by simp [results, Try.results22, go_sem, r0, r1]) rfl ⟨.slice a2 (woR ss rs).length c2, ?_, ?_, ?_, Or.inr hn3⟩
        · unfold woL; rw [if_neg HE.out, if_pos HC.out]; rfl
        · exact ((hs.setCell _ _ hn2).setCell _ _ hn1).setCell _ _ hn1
        · exact ((hb2.setCell (by show w.heap.size ≤ B; omega) _).setCell (by show w.heap.size ≤ w.heap.size + 1; omega) _).setCell (by show w.heap.size ≤ w.heap.size + 1; omega) _
      | false =>
        rw [hcon] at hN
        have HC : Hid (Lib.containsS rs l = false) := hcon
        clear hcon
        go_wp2_with (go_at_call 23; refine hN.mono ?_; rintro e w' ⟨rfl, hw⟩; subst w')
        refine bodyPost_ret (v := .agg #[.string l, .slice a2 (woR ss rs).length c2]) (by simp [results, Try.results22, go_sem, r0, r1]) rfl ⟨.slice a2 (woR ss rs).length c2, ?_, ?_, ?_, Or.inr hn3⟩
        · unfold woL; rw [if_neg HE.out, if_neg (by rw [HC.out]; simp)]
        · exact (hs.setCell _ _ hn1).setCell _ _ hn1
        · exact (hb2.setCell (by show w.heap.size ≤ w.heap.size + 1; omega) _).setCell (by show w.heap.size ≤ w.heap.size + 1; omega) _

end Go.Proofs.Qxb6612939a
