/-
  The walk of seedModel.
-/
import Derived.Test.Qxb6612885aSless
namespace Go.Proofs.Qxb6612885a
open Go.Shelf Go.RowKit Go.Lib Go.Sort

/-- how many draws, which new blocks -/
structure GrowBy where
  n : Nat
  os : Array Obj
instance : Inhabited GrowBy := ⟨⟨0, #[]⟩⟩
def growN (w : World) (z : GrowBy) : World := grow (w.drewN z.n) z.os

/-- a region whose operations read and whose callees lay new blocks alone -/
theorem wp_region_grow {P : Program} {id : Nat} {Q : Exit → Act → World → Prop} {a : Act} {w : World} {l : List Oper} (hm : P.follows .mixedOrders = true) (hB : Region.lexB .any l.toArray = true)
    (h : wpQuiet P l.toArray (fun w' => ∃ z : GrowBy, w' = growN w z) (fun a' => ∀ w', (∃ z : GrowBy, w' = growN w z) → Q .normal a' w') l a) : (Code.region id l.toArray true).wp P Q a w :=
  wp_region_quiet (C := fun w' => ∃ z : GrowBy, w' = growN w z) hm hB ⟨⟨1, #[]⟩, by unfold growN; rw [grow_empty]; rfl⟩ (by simpa using h)

theorem New.grown {w W : World} (h : New w W) : ∃ n os, W = grow (w.drewN n) os := by
  obtain ⟨hk, m, hm⟩ := h
  refine ⟨m, W.heap.extract w.heap.size W.heap.size, ?_⟩
  have hh : W.heap = w.heap ++ W.heap.extract w.heap.size W.heap.size := by
    refine Array.ext_getElem? fun i => ?_
    rw [Array.getElem?_append]
    split
    · rename_i hi
      exact hk.block i hi (by simp)
    · rename_i hi
      have := hk.size
      rw [Array.getElem?_extract]
      by_cases hiW : i < W.heap.size
      · rw [if_pos (by omega)]
        congr 1
        omega
      · rw [if_neg (by omega), Array.getElem?_eq_none (by omega)]
  have h1 := hk.os
  have h2 := hk.tape
  have h3 := hk.output
  obtain ⟨hp, tp, dr, os, out⟩ := W
  simp only at h1 h2 h3 hm hh
  subst h1 h2 h3 hm
  unfold grow
  show World.mk _ _ _ _ _ = World.mk _ _ _ _ _
  congr 1

theorem grown_new (w : World) (n : Nat) (os : Array Obj) : New w (grow (w.drewN n) os) :=
  ⟨⟨rfl, rfl, rfl, by rw [size_grow]; exact Nat.le_add_right _ _, fun k hk _ => heap_grow_old (w.drewN n) os hk⟩, n, rfl⟩

theorem New.trans {a b c : World} (h : New a b) (k : New b c) : New a c := by
  obtain ⟨h1, m, h2⟩ := h
  obtain ⟨k1, q, k2⟩ := k
  exact ⟨h1.trans k1, m + q, by rw [k2, h2, Nat.add_assoc]⟩

theorem grown_trans {w W : World} {z : GrowBy} (h : New (growN w z) W) : ∃ z : GrowBy, W = growN w z := by
  obtain ⟨n, os, e⟩ := ((grown_new w z.n z.os).trans h).grown
  exact ⟨⟨n, os⟩, e⟩

theorem NAt.val_cells {w : World} {b o : Nat} {x : N} (h : NAt w b o x) : w.cell? ⟨b, o, none⟩ = some (.bool x.it) := h.1

set_option maxHeartbeats 1000000 in
theorem before_new (a b : N) (w : World) : Calls Try.prog 28 #[a.val, b.val] w fun e w' => e = .returned (.bool (sbef a b)) ∧ New w w' := by
  obtain ⟨it, un, op, ua, ra, ld⟩ := a
  obtain ⟨it2, un2, op2, ua2, ra2, ld2⟩ := b
  unfold N.val sbef
  simp only
  have hk := ((New.refl w).alloc (.cells #[.bool it, .bool un, .bool op, .float .f64 ua, .float .f64 ra, .float .f64 ld] 28)).alloc (.cells #[.bool it2, .bool un2, .bool op2, .float .f64 ua2, .float .f64 ra2, .float .f64 ld2] 28)
  have hg : (FloatKind.f64.format.order ua ua2 == some Ordering.gt) = Flt.gt ua ua2 := rfl
  have hr : (FloatKind.f64.format.order ra ra2 == some Ordering.gt) = Flt.gt ra ra2 := rfl
  have he : (FloatKind.f64.format.order ua ua2 != some Ordering.eq) = !Flt.eq ua ua2 := rfl
  generalize Flt.gt ua ua2 = g1 at *
  generalize Flt.gt ra ra2 = g2 at *
  generalize Flt.eq ua ua2 = e1 at *
  cases un
  · cases un2
    · go_enter Try.func28, Try.ntmps28
      go_wp2
      go_ret
      exact ⟨rfl, hk⟩
    · go_enter Try.func28, Try.ntmps28
      go_wp2
      go_ret
      exact ⟨rfl, hk⟩
  · cases un2
    · go_enter Try.func28, Try.ntmps28
      go_wp2
      go_ret
      exact ⟨rfl, hk⟩
    · cases e1
      · go_enter Try.func28, Try.ntmps28
        go_wp2
        go_ret
        exact ⟨rfl, hk⟩
      · go_enter Try.func28, Try.ntmps28
        go_wp2
        go_ret
        exact ⟨rfl, hk⟩

set_option maxHeartbeats 40000000 in
set_option maxRecDepth 100000 in
theorem sdModel_walk (v : Value) (ns : List N) (slots : Nat) (hsl : 1 ≤ slots) (hsl2 : slots < 9223372036854775808) (s : Nat × Nat) (hs : s.2 < 18446744073709551616) (rounds : Int) (per : Bool) (w : World) (hv : NArg w v ns) (hn : ns.length ≤ 4096) :
    Calls Try.prog 19 #[v, .int .i64 (slots : Nat), .int .u64 s.1, .int .u64 s.2, .int .i64 rounds, .bool per] w fun e w' => ∃ bu d, e = .returned (.slice (some ⟨bu, 0, none⟩) ns.length ns.length) ∧
      (draws rounds per slots (flt (isI ns) ns.length).length = true → DrawR ((flt (isI ns) ns.length).length - (slots - 1)) s d) ∧ BF w' bu ns.length (unS ns slots (draws rounds per slots (flt (isI ns) ns.length).length) d) ∧ Tag w' bu 4 ∧ Keep [] w w' := by
  obtain ⟨a, c, rfl, hns⟩ := hv.gen
  obtain ⟨n, hnn⟩ : ∃ n, ns.length = n := ⟨_, rfl⟩
  rw [hnn] at hn hns ⊢
  clear hv
  go_enter Try.func19, Try.ntmps19
  go_wp2
  go_loopw [14, 15] (fun v14 v15 wr => ∃ k : Nat, k ≤ n ∧ v15 = .int .i64 k ∧ v14 = .int .i64 ((flt (isI ns) k).length : Nat) ∧ wr = w) (fun _ v15 _ => n - (intOf v15).toNat)
  case atStart => exact ⟨0, by omega, rfl, rfl, rfl⟩
  case round =>
    obtain ⟨k, hk, rfl, rfl, rfl⟩ := hrel
    have hfl := flt_len (isI ns) k
    by_cases hlt : k < n
    · as_aux_lemma =>
        obtain ⟨b, off, rfl, hb, d0, _, _, _, _, _⟩ := hns k hlt
        have hE : isI ns k = ns[k]!.it := rfl
        rw [← hE] at d0
        clear hns
        cases he : isI ns k
        · rw [he] at d0
          have HM : Hid _ := flt_miss he
          go_wp2
          go_roundw
          case rel => exact ⟨k + 1, by omega, by go_num, by rw [HM.out], by first | trivial | rfl⟩
          case measure => simp [intOf]; omega
        · rw [he] at d0
          have HM : Hid _ := flt_hit he
          go_wp2
          go_roundw
          case rel => exact ⟨k + 1, by omega, by go_num, by rw [HM.out]; simp, by first | trivial | rfl⟩
          case measure => simp [intOf]; omega
    · have : k = n := by omega
      subst this
      clear hk hlt
      rename World => w0
      generalize hmm : (flt (isI ns) k).length = m at *
      go_upto_region 8 with fail
      go_cut [16] (fun v16 wx => v16 = .bool (draws rounds per slots m) ∧ wx = w0)
      case first =>
        cases per
        · go_wp2
          go_meet
          exact ⟨rfl, rfl⟩
        · cases hr3 : (rounds.tmod 3 != 0)
          · go_wp2
            go_meet
            exact ⟨by unfold draws; rw [hr3]; rfl, rfl⟩
          · by_cases hls : slots ≤ m
            · go_wp2
              go_meet
              exact ⟨by unfold draws; rw [hr3, decide_eq_true hls]; rfl, rfl⟩
            · go_wp2
              go_meet
              exact ⟨by unfold draws; rw [hr3, decide_eq_false hls]; rfl, rfl⟩
      case rest =>
        obtain ⟨rfl, rfl⟩ := hcut
        rename World => w1
        have hlen : draws rounds per slots m = true → slots ≤ m := fun h => by
          unfold draws at h
          simp only [Bool.and_eq_true, decide_eq_true_eq] at h
          exact h.2
        generalize hdr : draws rounds per slots m = dr at *
        go_upto_if 47 with fail
        go_cut [17] (fun v17 wx => ∃ (d : Nat) (pk : Int), v17 = .int .i64 pk ∧ (dr = true → pk = ((slots - 1 + d : Nat) : Int)) ∧ Hid (dr = true → DrawR (m - (slots - 1)) s d) ∧ Keep [] w1 wx)
        case first =>
          cases dr
          · go_wp2
            go_meet
            exact ⟨0, _, rfl, (fun h => absurd h (by decide)), (fun h => absurd h (by decide)), Keep.refl _ _⟩
          · have hlm := hlen rfl
            obtain ⟨t, rfl⟩ : ∃ t, slots = t + 1 := ⟨slots - 1, by omega⟩
            have hpos : 0 < m - t := by omega
            have hdw := draw_walk (m - t) hpos (by omega) s hs w1
            have hwr : IntKind.i64.wrap ((m - t : Nat) : Int) = ((m - t : Nat) : Int) := by rw [IntKind.wrap_i64]; omega
            have hm1 : ((m : Int) - ((t : Int) + 1) + 1) = ((m - t : Nat) : Int) := by omega
            go_upto_region 12 with (go_at_call 25; refine hdw.mono ?_; rintro e w7 ⟨d, rfl, hd, hbl⟩; have hk7 : Keep [] w1 w7 := Keep.of_below hbl []; have hdl := DrawR.lt hpos hd; have HD : Hid (true = true → DrawR (m - t) s d) := (fun _ => hd); clear hbl hd)
            go_meet
            exact ⟨d, _, rfl, fun _ => by go_num, HD, hk7⟩
        case rest =>
          obtain ⟨d, pk, rfl, hpk, HD, hkA⟩ := hcut
          rename World => wA
          obtain ⟨i0, hi, hz0, hz1, hz2⟩ := info4_parts
          have hszA := hkA.size
          go_wp2_with (at_make; refine wpList_make_full _ rfl _ _ 34 rfl w1.heap.size 4 i0 _ 1 Try.underlying34 hi hz0 hz1 _ _ _ _ k rfl rfl rfl rfl (by rw [hz2]; omega) (by unfold maxLen; omega) hszA ?_; intro w3 hown hgr)
          have hB3 := BF.made hown
          have hT3 : Tag w3 wA.heap.size 4 := tag_own hown
          have hk3 : Keep [] w1 w3 := hkA.trans ⟨hgr.os, hgr.tape, hgr.output, hgr.size, fun k hk _ => hgr.block k hk (by simp)⟩
          generalize hbue : wA.heap.size = bu at *
          clear hown hgr
          go_loopw [19] (fun v19 w4 => ∃ i : Nat, i ≤ k ∧ v19 = .int .i64 i ∧ BF w4 bu k (eTo (unS ns slots dr d) i) ∧ Tag w4 bu 4 ∧ Keep [] w1 w4) (fun v19 _ => k - (intOf v19).toNat)
          case atStart => exact ⟨0, by omega, rfl, hB3.congr (fun i _ => eTo_zero _ i), hT3, hk3⟩
          case round =>
            obtain ⟨i, hij, rfl, hUi, hTi, hki⟩ := hrel
            by_cases hlt : i < k
            · obtain ⟨b, off, rfl, hb, hNi⟩ := hns i hlt
              have hNi4 : NAt wr b (off + i * 6) ns[i]! := hNi.of_cells fun c _ => hki.cell hb (by simp)
              have d0 := hNi4.1
              have hE : isI ns i = ns[i]!.it := rfl
              rw [← hE] at d0
              cases he : isI ns i
              · rw [he] at d0
                have HU : Hid _ := eTo_skip hUi (by unfold unS; rw [he]; rfl)
                go_wp2
                go_roundw
                case rel => exact ⟨i + 1, by omega, by go_num, HU.out, hTi, hki⟩
                case measure => simp [intOf]; omega
              · rw [he] at d0
                rename World => wC
                clear hB3 hT3 hk3
                go_wp2
                go_loopw [20, 21] (fun v20 v21 w5 => ∃ x : Nat, x ≤ k ∧ v21 = .int .i64 x ∧ v20 = .int .i64 ((flt (aheadS ns i) x).length : Nat) ∧ Keep [] wC w5) (fun _ v21 _ => k - (intOf v21).toNat)
                case atStart => exact ⟨0, by omega, rfl, rfl, Keep.refl _ _⟩
                case round =>
                  obtain ⟨x, hxj, rfl, rfl, hkx⟩ := hrel
                  have hfl := flt_len (aheadS ns i) x
                  by_cases hlx : x < k
                  · as_aux_lemma =>
                      obtain ⟨b2, off2, h2, _, hNx⟩ := hns x hlx
                      simp at h2
                      obtain ⟨rfl, rfl⟩ := h2
                      have hNx4 : NAt wr b (off + x * 6) ns[x]! := hNx.of_cells fun c _ => (hki.trans hkx).cell hb (by simp)
                      have hNi5 : NAt wr b (off + i * 6) ns[i]! := hNi.of_cells fun c _ => (hki.trans hkx).cell hb (by simp)
                      have hbl : b < wr.heap.size := Nat.lt_of_lt_of_le hb (hki.trans hkx).size
                      have hA0 : aheadS ns i x = ((x != i) && ns[x]!.it && (sbef ns[x]! ns[i]! || (decide (x < i) && !sbef ns[i]! ns[x]!))) := rfl
                      have HA : Hid _ := hA0
                      have HB1 := fun W => before_new ns[x]! ns[i]! W
                      have HB2 := fun W => before_new ns[i]! ns[x]! W
                      unfold N.val at HB1 HB2
                      clear hA0 hUi hns he hNi hNx hNi4 d0
                      generalize hxx : sbef ns[x]! ns[i]! = s1 at *
                      generalize hyy : sbef ns[i]! ns[x]! = s2 at *
                      clear hxx hyy
                      generalize ns[x]! = X at *
                      generalize ns[i]! = Y at *
                      obtain ⟨it, un, op, ua, ra, ld⟩ := X
                      obtain ⟨it2, un2, op2, ua2, ra2, ld2⟩ := Y
                      simp only at HA HB1 HB2
                      have HK : Hid (∀ W, Keep [] wr W → (W.cell? ⟨b, off + x * 6, none⟩ = some (.bool it) ∧ W.cell? ⟨b, off + x * 6 + 1, none⟩ = some (.bool un) ∧ W.cell? ⟨b, off + x * 6 + 2, none⟩ = some (.bool op) ∧ W.cell? ⟨b, off + x * 6 + 3, none⟩ = some (.float .f64 ua) ∧ W.cell? ⟨b, off + x * 6 + 4, none⟩ = some (.float .f64 ra) ∧ W.cell? ⟨b, off + x * 6 + 5, none⟩ = some (.float .f64 ld) ∧
                          W.cell? ⟨b, off + i * 6, none⟩ = some (.bool it2) ∧ W.cell? ⟨b, off + i * 6 + 1, none⟩ = some (.bool un2) ∧ W.cell? ⟨b, off + i * 6 + 2, none⟩ = some (.bool op2) ∧ W.cell? ⟨b, off + i * 6 + 3, none⟩ = some (.float .f64 ua2) ∧ W.cell? ⟨b, off + i * 6 + 4, none⟩ = some (.float .f64 ra2) ∧ W.cell? ⟨b, off + i * 6 + 5, none⟩ = some (.float .f64 ld2) ∧ Keep [] wr W)) := fun W hW => by
                        obtain ⟨p0, p1, p2, p3, p4, p5⟩ := hNx4
                        obtain ⟨q0, q1, q2, q3, q4, q5⟩ := hNi5
                        refine ⟨?_, ?_, ?_, ?_, ?_, ?_, ?_, ?_, ?_, ?_, ?_, ?_, hW⟩
                        all_goals (rw [hW.cell hbl (by simp)]; assumption)
                      have HC : Hid ((∀ z, (growN wr z).cell? ⟨b, off + x * 6, none⟩ = some (.bool it)) ∧ (∀ z, (growN wr z).cell? ⟨b, off + x * 6 + 1, none⟩ = some (.bool un)) ∧ (∀ z, (growN wr z).cell? ⟨b, off + x * 6 + 2, none⟩ = some (.bool op)) ∧ (∀ z, (growN wr z).cell? ⟨b, off + x * 6 + 3, none⟩ = some (.float .f64 ua)) ∧ (∀ z, (growN wr z).cell? ⟨b, off + x * 6 + 4, none⟩ = some (.float .f64 ra)) ∧ (∀ z, (growN wr z).cell? ⟨b, off + x * 6 + 5, none⟩ = some (.float .f64 ld)) ∧
                          (∀ z, (growN wr z).cell? ⟨b, off + i * 6, none⟩ = some (.bool it2)) ∧ (∀ z, (growN wr z).cell? ⟨b, off + i * 6 + 1, none⟩ = some (.bool un2)) ∧ (∀ z, (growN wr z).cell? ⟨b, off + i * 6 + 2, none⟩ = some (.bool op2)) ∧ (∀ z, (growN wr z).cell? ⟨b, off + i * 6 + 3, none⟩ = some (.float .f64 ua2)) ∧ (∀ z, (growN wr z).cell? ⟨b, off + i * 6 + 4, none⟩ = some (.float .f64 ra2)) ∧ ∀ z, (growN wr z).cell? ⟨b, off + i * 6 + 5, none⟩ = some (.float .f64 ld2)) := by
                        have h := fun z : GrowBy => HK.out (growN wr z) (grown_new wr z.n z.os).1
                        exact ⟨fun z => (h z).1, fun z => (h z).2.1, fun z => (h z).2.2.1, fun z => (h z).2.2.2.1, fun z => (h z).2.2.2.2.1, fun z => (h z).2.2.2.2.2.1, fun z => (h z).2.2.2.2.2.2.1, fun z => (h z).2.2.2.2.2.2.2.1, fun z => (h z).2.2.2.2.2.2.2.2.1, fun z => (h z).2.2.2.2.2.2.2.2.2.1, fun z => (h z).2.2.2.2.2.2.2.2.2.2.1, fun z => (h z).2.2.2.2.2.2.2.2.2.2.2.1⟩
                      have hkd : Keep [] wr wr.drew := (Keep.refl _ _).drew
                      clear hNx4 hNi5
                      go_upto_region 21 with fail
                      go_cut [113] (fun v113 w6 => v113 = .bool ((x != i) && it && (s1 || (decide (x < i) && !s2))) ∧ Keep [] wr w6)
                      case first =>
                        clear HA
                        have p0 := (HK.out wr (Keep.refl _ _)).1
                        by_cases hxi : x = i
                        · subst hxi
                          have hb2 : (x != x) = false := by simp
                          have hb1 : ((x : Int) != (x : Int)) = false := by simp
                          clear HB1 HB2 HK HC
                          go_quiet (fail)
                          go_wp2
                          go_meet
                          exact ⟨by simp, (Keep.refl [] wr).drewN _⟩
                        · have hb1 : ((x : Int) != (i : Int)) = true := by simp; omega
                          have hb2 : (x != i) = true := by simpa using hxi
                          have hb3 : ¬ ((x : Int) = (i : Int)) := by omega
                          cases it
                          · clear HB1 HB2 HK HC
                            go_quiet (fail)
                            go_wp2
                            go_meet
                            exact ⟨by simp, (Keep.refl [] wr).drewN _⟩
                          · clear p0 HK hkd
                            cases s1
                            · by_cases hlt2 : x < i
                              · have hq : ((x != i) && true && (false || (decide (x < i) && !s2))) = !s2 := by rw [hb2, decide_eq_true hlt2]; simp
                                have hl3 : (x : Int) < (i : Int) := by omega
                                obtain ⟨p0, p1, p2, p3, p4, p5, q0, q1, q2, q3, q4, q5⟩ := HC.out
                                refine wp_region_grow (by kernel_rfl) (by kernel_rfl) ?_
                                repeat (go_big_quiet_step (first | (go_at_call_of 28 ([Value.agg #[.bool it2, .bool un2, .bool op2, .float .f64 ua2, .float .f64 ra2, .float .f64 ld2]]); exact (HB1 _).mono (fun e w' h => ⟨h.1, grown_trans h.2⟩)) | (go_at_call_of 28 ([Value.agg #[.bool true, .bool un, .bool op, .float .f64 ua, .float .f64 ra, .float .f64 ld]]); exact (HB2 _).mono (fun e w' h => ⟨h.1, grown_trans h.2⟩))))
                                refine wpQuiet_nil ?_
                                rintro _ ⟨nq, rfl⟩
                                have hkq : Keep [] wr (growN wr nq) := (grown_new wr nq.n nq.os).1
                                go_wp2
                                go_meet
                                exact ⟨by rw [hq], hkq⟩
                              · have hl3 : decide ((x : Int) < (i : Int)) = false := by simp; omega
                                have hq : ((x != i) && true && (false || (decide (x < i) && !s2))) = false := by rw [decide_eq_false hlt2]; simp
                                obtain ⟨p0, p1, p2, p3, p4, p5, q0, q1, q2, q3, q4, q5⟩ := HC.out
                                refine wp_region_grow (by kernel_rfl) (by kernel_rfl) ?_
                                repeat (go_big_quiet_step (first | (go_at_call_of 28 ([Value.agg #[.bool it2, .bool un2, .bool op2, .float .f64 ua2, .float .f64 ra2, .float .f64 ld2]]); exact (HB1 _).mono (fun e w' h => ⟨h.1, grown_trans h.2⟩)) | (go_at_call_of 28 ([Value.agg #[.bool true, .bool un, .bool op, .float .f64 ua, .float .f64 ra, .float .f64 ld]]); exact (HB2 _).mono (fun e w' h => ⟨h.1, grown_trans h.2⟩))))
                                refine wpQuiet_nil ?_
                                rintro _ ⟨nq, rfl⟩
                                have hkq : Keep [] wr (growN wr nq) := (grown_new wr nq.n nq.os).1
                                go_wp2
                                go_meet
                                exact ⟨by rw [hq], hkq⟩
                            · have hq : ((x != i) && true && (true || (decide (x < i) && !s2))) = true := by rw [hb2]; rfl
                              obtain ⟨p0, p1, p2, p3, p4, p5, q0, q1, q2, q3, q4, q5⟩ := HC.out
                              refine wp_region_grow (by kernel_rfl) (by kernel_rfl) ?_
                              repeat (go_big_quiet_step (first | (go_at_call_of 28 ([Value.agg #[.bool it2, .bool un2, .bool op2, .float .f64 ua2, .float .f64 ra2, .float .f64 ld2]]); exact (HB1 _).mono (fun e w' h => ⟨h.1, grown_trans h.2⟩)) | (go_at_call_of 28 ([Value.agg #[.bool true, .bool un, .bool op, .float .f64 ua, .float .f64 ra, .float .f64 ld]]); exact (HB2 _).mono (fun e w' h => ⟨h.1, grown_trans h.2⟩))))
                              refine wpQuiet_nil ?_
                              rintro _ ⟨nq, rfl⟩
                              have hkq : Keep [] wr (growN wr nq) := (grown_new wr nq.n nq.os).1
                              go_wp2
                              go_meet
                              exact ⟨by rw [hq], hkq⟩
                      case rest =>
                        obtain ⟨rfl, hk6⟩ := hcut
                        rw [← HA.out]
                        have hkc := hkx.trans hk6
                        cases hea : aheadS ns i x
                        · have HM : Hid _ := flt_miss hea
                          go_wp2
                          go_roundw
                          case rel => exact ⟨x + 1, by omega, by go_num, by rw [HM.out], hkc⟩
                          case measure => simp [intOf]; omega
                        · have HM : Hid _ := flt_hit hea
                          go_wp2
                          go_roundw
                          case rel => exact ⟨x + 1, by omega, by go_num, by rw [HM.out]; simp, hkc⟩
                          case measure => simp [intOf]; omega
                  · have : x = k := by omega
                    subst this
                    obtain ⟨ui, fi⟩ := hUi.keep hkx hTi.lt (by simp) i hlt
                    have hr : rankS ns i = (flt (aheadS ns i) x).length := by unfold rankS; rw [hnn]
                    have hU : unS ns slots dr d i = (if dr = true then decide ((flt (aheadS ns i) x).length < slots - 1) || (flt (aheadS ns i) x).length == slots - 1 + d else decide ((flt (aheadS ns i) x).length < slots)) := by unfold unS; rw [he, hr]; simp
                    have HF : Hid (BF (wr.setCell ⟨bu, i, none⟩ (.bool (unS ns slots dr d i))) bu x (eTo (unS ns slots dr d) (i + 1)) ∧ Tag (wr.setCell ⟨bu, i, none⟩ (.bool (unS ns slots dr d i))) bu 4 ∧ Keep [] w1 (wr.setCell ⟨bu, i, none⟩ (.bool (unS ns slots dr d i)))) :=
                      ⟨eTo_succ (hUi.keep hkx hTi.lt (by simp)), (hTi.keep hkx (by simp)).setCell _ _, (hki.trans hkx).setCell (p := ⟨bu, i, none⟩) (.inr hszA) _⟩
                    rw [hU] at HF
                    obtain ⟨t, rfl⟩ : ∃ t, slots = t + 1 := ⟨slots - 1, by omega⟩
                    simp only [Nat.add_sub_cancel] at HF hpk
                    clear hU hUi hns hki he hkx hr hNi hNi4 d0 HD hlen hdr
                    generalize (flt (aheadS ns i) x).length = cnt at *
                    cases dr
                    · by_cases hcl : cnt < t + 1
                      · have hci : (cnt : Int) < (t : Int) + 1 := by omega
                        rw [decide_eq_true hcl, if_neg (by decide)] at HF
                        go_wp2
                        go_roundw
                        case rel => exact ⟨i + 1, by omega, by go_num, HF.out.1, HF.out.2.1, HF.out.2.2⟩
                        case measure => simp [intOf]; omega
                      · have hci : decide ((cnt : Int) < (t : Int) + 1) = false := by simp; omega
                        rw [decide_eq_false hcl, if_neg (by decide)] at HF
                        go_wp2
                        go_roundw
                        case rel => exact ⟨i + 1, by omega, by go_num, HF.out.1, HF.out.2.1, HF.out.2.2⟩
                        case measure => simp [intOf]; omega
                    · have hpk2 := hpk rfl
                      subst hpk2
                      rw [if_pos rfl] at HF
                      by_cases hcl : cnt < t
                      · have hci : (cnt : Int) < (t : Int) := by omega
                        rw [decide_eq_true hcl, Bool.true_or] at HF
                        go_wp2
                        go_roundw
                        case rel => exact ⟨i + 1, by omega, by go_num, HF.out.1, HF.out.2.1, HF.out.2.2⟩
                        case measure => simp [intOf]; omega
                      · have hci : decide ((cnt : Int) < (t : Int)) = false := by simp; omega
                        rw [decide_eq_false hcl, Bool.false_or] at HF
                        cases hce : (cnt == t + d)
                        · have hcb : ((cnt : Int) == (t : Int) + (d : Int)) = false := by simp at hce ⊢; omega
                          rw [hce] at HF
                          go_wp2
                          go_roundw
                          case rel => exact ⟨i + 1, by omega, by go_num, HF.out.1, HF.out.2.1, HF.out.2.2⟩
                          case measure => simp [intOf]; omega
                        · have hcb : ((cnt : Int) == (t : Int) + (d : Int)) = true := by simp at hce ⊢; omega
                          rw [hce] at HF
                          go_wp2
                          go_roundw
                          case rel => exact ⟨i + 1, by omega, by go_num, HF.out.1, HF.out.2.1, HF.out.2.2⟩
                          case measure => simp [intOf]; omega
            · have : i = k := by omega
              subst this
              have hU := eTo_end hUi
              go_wp2
              go_ret
              exact ⟨bu, d, rfl, by rw [hmm, hdr]; exact HD.out, by rw [hmm, hdr]; exact hU, hTi, hki⟩

end Go.Proofs.Qxb6612885a
