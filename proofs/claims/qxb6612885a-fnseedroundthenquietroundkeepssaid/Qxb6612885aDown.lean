/-
  The walk of downloadRound.
-/
import Derived.Test.Qxb6612885aKeepI
import Derived.Deep.DeepCutAuto
import Derived.Deep.CutRange
import Derived.Deep.Cut
namespace Go.Proofs.Qxb6612885a
open Go.Shelf Go.RowKit Go.Lib Go.Sort

theorem info3b : (Try.prog.info? 3).map (fun i => (i.zero, i.size, i.bytes)) = some (some (.int .i64 0), 1, 8) := by kernel_rfl

theorem enter31 (args : Array Value) (w : World) : (callFunc 31 args).run Try.prog w = .ok (.enter 31 args) w := by
  have hf : Try.prog.funcs[31]? = some Try.f31 := Try.func31
  have h1 : Try.f31.name ≠ "runtime.NumGoroutine" := by
    have : (Try.f31.name == "runtime.NumGoroutine") = false := by kernel_rfl
    simpa using this
  have hb : Try.f31.body.isSome = true := by kernel_rfl
  obtain ⟨c, hc⟩ := Option.isSome_iff_exists.1 hb
  simp [callFunc, hf, h1, hc]

theorem chk_cells {w : World} {bc : Nat} {c0 c1 c2 c3 c4 : Value} {t : TypeId} (h : w.heap[bc]? = some (.cells #[c0, c1, c2, c3, c4] t (0, 0))) :
    w.cell? ⟨bc, 0, none⟩ = some c0 ∧ w.cell? ⟨bc, 1, none⟩ = some c1 ∧ w.cell? ⟨bc, 2, none⟩ = some c2 ∧ w.cell? ⟨bc, 3, none⟩ = some c3 ∧ w.cell? ⟨bc, 4, none⟩ = some c4 ∧ ∀ o, w.frozen? ⟨bc, o, none⟩ = false := by
  unfold World.cell?
  rw [h]
  exact ⟨rfl, rfl, rfl, rfl, rfl, fun o => by unfold World.frozen?; rw [h]; simp⟩

theorem cell_one (w : World) (x : Value) (t : TypeId) : ∀ j u, [x][j]? = some u → (w.alloc (.cells #[x] t)).cell? ((⟨w.heap.size, 0, none⟩ : Addr).add j) = some u := by
  intro j u h
  cases j with
  | zero => simp at h; subst h; exact (Box.new w x t).cell
  | succ j => simp at h

/-- the box of the row is written anew -/
theorem end_box {wr : World} {base B bc bp b9 nf : Nat} {v v0 : Value} {xf : List Value} {ns : List N} {s : Nat × Nat} {cs : Array Value}
    (hb : Box wr b9 v0 47) (ho : wr.ownsRow base 3 1 v nf xf) (hN : NsAt wr B ns) (hT : Tag wr B 42) (hC : wr.heap[bc]? = some (.cells cs 49 (0, 0))) (hP : Holds encU wr bp 0 (row2 s)) (hTP : Tag wr bp 60) :
    Box (wr.setCell ⟨b9, 0, none⟩ v) b9 v 47 ∧ (wr.setCell ⟨b9, 0, none⟩ v).ownsRow base 3 1 v nf xf ∧ NsAt (wr.setCell ⟨b9, 0, none⟩ v) B ns ∧ Tag (wr.setCell ⟨b9, 0, none⟩ v) B 42 ∧ (wr.setCell ⟨b9, 0, none⟩ v).heap[bc]? = some (.cells cs 49 (0, 0)) ∧ Holds encU (wr.setCell ⟨b9, 0, none⟩ v) bp 0 (row2 s) ∧ Tag (wr.setCell ⟨b9, 0, none⟩ v) bp 60 ∧ KeepI base [B, bc, bp, b9] wr (wr.setCell ⟨b9, 0, none⟩ v) := by
  have hkz : Keep [b9] wr (wr.setCell ⟨b9, 0, none⟩ v) := (Keep.refl _ _).setCell (.inl (by simp)) _
  have hTC : Tag wr bc 49 := ⟨_, hC⟩
  refine ⟨hb.set v, own_setCell ho (p := ⟨b9, 0, none⟩) hb.tag (by decide) v, hN.keep hkz hT.lt (by simp; exact hT.ne hb.tag (by decide)), hT.setCell _ _, ?_, hkz.holds hTP.lt (by simp; exact hTP.ne hb.tag (by decide)) hP, hTP.setCell _ _, KeepI.of_keep hkz (fun b h => .inl (by simp at h; simp [h]))⟩
  rw [hkz.block bc hTC.lt (by simp; exact hTC.ne hb.tag (by decide))]; exact hC

/-- a number was drawn, and the time of it is written -/
theorem end_at {wr w7 : World} {base B bc bp b9 nf : Nat} {v v0 c0 c1 c2 c3 c4 : Value} {xf : List Value} {ns : List N} {s7 : Nat × Nat}
    (hb : Box wr b9 v0 47) (ho : wr.ownsRow base 3 1 v nf xf) (hN : NsAt wr B ns) (hT : Tag wr B 42) (hC : wr.heap[bc]? = some (.cells #[c0, c1, c2, c3, c4] 49 (0, 0))) (hTP : Tag wr bp 60)
    (hk : Keep [bp] wr w7) (hTP7 : Tag w7 bp 60) (hP7 : Holds encU w7 bp 0 (row2 s7)) (u : Value) :
    Box (w7.setCell ⟨bc, 3, none⟩ u) b9 v0 47 ∧ (w7.setCell ⟨bc, 3, none⟩ u).ownsRow base 3 1 v nf xf ∧ NsAt (w7.setCell ⟨bc, 3, none⟩ u) B ns ∧ Tag (w7.setCell ⟨bc, 3, none⟩ u) B 42 ∧ (w7.setCell ⟨bc, 3, none⟩ u).heap[bc]? = some (.cells #[c0, c1, c2, u, c4] 49 (0, 0)) ∧ Holds encU (w7.setCell ⟨bc, 3, none⟩ u) bp 0 (row2 s7) ∧ Tag (w7.setCell ⟨bc, 3, none⟩ u) bp 60 ∧ KeepI base [B, bc, bp, b9] wr (w7.setCell ⟨bc, 3, none⟩ u) := by
  have hTC : Tag wr bc 49 := ⟨_, hC⟩
  have hC7 := hC
  rw [← hk.block bc hTC.lt (by simp; exact hTC.ne hTP (by decide))] at hC7
  have hTC7 : Tag w7 bc 49 := ⟨_, hC7⟩
  have hb7 := hb.keep hk (by simp; exact hb.tag.ne hTP (by decide))
  have ho7 := own_keep hk ho (fun b h => by simp at h; subst h; exact own_tag_ne ho hTP (by decide))
  have hN7 := hN.keep hk hT.lt (by simp; exact hT.ne hTP (by decide))
  have hT7 := hT.keep hk (by simp; exact hT.ne hTP (by decide))
  have hkz : Keep [bc] w7 (w7.setCell ⟨bc, 3, none⟩ u) := (Keep.refl _ _).setCell (.inl (by simp)) _
  refine ⟨hb7.keep hkz (by simp; exact hb7.tag.ne hTC7 (by decide)), own_setCell ho7 (p := ⟨bc, 3, none⟩) hTC7 (by decide) u, hN7.keep hkz hT7.lt (by simp; exact hT7.ne hTC7 (by decide)), hT7.setCell _ _, chk_set3 hC7 u, hkz.holds hTP7.lt (by simp; exact hTP7.ne hTC7 (by decide)) hP7, hTP7.setCell _ _, ?_⟩
  exact (KeepI.of_keep hk (fun b h => .inl (by simp at h; simp [h]))).trans (KeepI.of_keep hkz (fun b h => .inl (by simp at h; simp [h])))

set_option maxHeartbeats 40000000 in
set_option maxRecDepth 100000 in
theorem down_walk (w : World) (bc B bp br base slots : Nat) (rounds : Int) (at_ now : Nat) (vo : Value) (no : Nat) (xo : List Value) (ns : List N) (s : Nat × Nat) (hsl : 1 ≤ slots) (hsl2 : slots < 9223372036854775808) (hn : ns.length ≤ 4096) (hbase : base ≤ w.heap.size) (hnan : ∀ i : Nat, Flt.nan ns[i]!.ra = false)
    (hR : Ready w bc B bp br base slots rounds at_ vo no xo ns s) :
    Calls Try.prog 23 #[.pointer (some ⟨bc, 0, none⟩), .slice (some ⟨B, 0, none⟩) ns.length ns.length, .float .f64 now] w fun e w' => e = .returned (.tuple #[]) ∧ ∃ ms at' vo' no' xo' s', DlR ns slots now at_ s ms at' ∧ Ready w' bc B bp br base slots rounds at' vo' no' xo' ms s' ∧ KeepI base [B, bc, bp] w w' := by
  obtain ⟨k0, k1, k2, k3, k4, kf⟩ := chk_cells hR.chk
  obtain ⟨n, hnn⟩ : ∃ n, ns.length = n := ⟨_, rfl⟩
  rw [hnn] at hn ⊢
  -- the first loop: the box of ns
  have hA := hR.ns
  have hb4 := Box.new w (.slice (some ⟨B, 0, none⟩) n n) 29
  have c4 := hb4.cell
  have hK : Keep [] w (w.alloc (.cells #[.slice (some ⟨B, 0, none⟩) n n] 29)) := (Keep.refl [] w).alloc _
  have hA1 := hA.keep hK hR.tagB.lt (by simp)
  go_enter Try.func23, Try.ntmps23
  go_wp2
  generalize hw1 : w.alloc (.cells #[.slice (some ⟨B, 0, none⟩) n n] 29) = w1 at *
  go_loopw [6, 21] (fun v6 v21 wr => ∃ k : Nat, k ≤ n ∧ v21 = .int .i64 k ∧ v6 = .int .i64 (keptTo ns k) ∧ wr = w1) (fun _ v21 _ => n - (intOf v21).toNat)
  case atStart => exact ⟨0, by omega, rfl, rfl, rfl⟩
  case round =>
    obtain ⟨k, hk, rfl, rfl, rfl⟩ := hrel
    by_cases hlt : k < n
    · obtain ⟨_, d1, d2, _, _, _⟩ := (hA1 k (by omega)).1
      have hkt : keptTo ns (k + 1) = if ns[k]!.op && ns[k]!.un then (k : Int) else keptTo ns k := rfl
      generalize hx : ns[k]! = x at *
      obtain ⟨it, un, op, ua, ra, ld⟩ := x
      simp only at d1 d2 hkt
      have HKT : Hid _ := hkt
      clear hA hA1 hR hx hkt
      cases op
      · go_wp2
        go_roundw
        case rel => exact ⟨k + 1, by omega, by go_num, by rw [HKT.out]; rfl, by first | trivial | rfl⟩
        case measure => simp [intOf]; omega
      · cases un
        · go_wp2
          go_roundw
          case rel => exact ⟨k + 1, by omega, by go_num, by rw [HKT.out]; rfl, by first | trivial | rfl⟩
          case measure => simp [intOf]; omega
        · go_wp2
          go_roundw
          case rel => exact ⟨k + 1, by omega, by go_num, by rw [HKT.out]; rfl, by first | trivial | rfl⟩
          case measure => simp [intOf]; omega
    · have : k = n := by omega
      subst this
      clear hk hlt
      have hC1 : wr.heap[bc]? = some (.cells #[.int .i64 (slots : Nat), .pointer (some ⟨br, 0, none⟩), .int .i64 rounds, .float .f64 at_, vo] 49 (0, 0)) := by rw [hK.block bc (Array.getElem?_eq_some_iff.1 hR.chk).1 (by simp)]; exact hR.chk
      have hO1 := own_keep hK hR.own (fun b hb => by cases hb)
      obtain ⟨k0, k1, k2, k3, k4, kf⟩ := chk_cells hC1
      have hrot := fun b => rotates_walk bc now at_ b wr k3
      have hRE : Hid (Ready w bc B bp br base slots rounds at_ vo no xo ns s) := hR
      obtain ⟨ao, co, hvo, hao⟩ : ∃ ao co, vo = .slice ao no co ∧ ((ao = none ∧ co = 0) ∨ ∃ g, ao = some ⟨g, 0, none⟩) := by
        rcases hR.own.2 with ⟨h, h0⟩ | ⟨g, cap, _, h, _⟩
        · exact ⟨none, 0, by rw [h, h0], .inl ⟨rfl, rfl⟩⟩
        · exact ⟨_, cap, h, .inr ⟨g, rfl⟩⟩
      rw [hvo] at k4
      clear hA hR
      generalize hkp : keptTo ns k = kp at *
      go_upto_region 9 with (go_at_call 29; refine (hrot _).mono ?_; rintro e w' ⟨rfl, q, hw⟩; have hkq : Keep [] wr w' := (by rw [hw]; exact (Keep.refl [] wr).drewN q); have kq4 : w'.cell? ⟨bc, 4, none⟩ = some (.slice ao no co) := (by rw [hw]; exact k4); clear hw)
      go_cut [9] (fun v9 wx => v9 = .pointer (some ⟨w'.heap.size, 0, none⟩) ∧ ∃ v0, Box wx w'.heap.size v0 47 ∧ wx.ownsRow base 3 1 v0 0 [] ∧ Keep [] wr wx)
      case first =>
        rcases hao with ⟨rfl, rfl⟩ | ⟨g, rfl⟩
        · go_wp2
          go_meet
          exact ⟨rfl, _, Box.new _ _ _, World.ownsRow_nil _ _ _ _, hkq.alloc _⟩
        · go_wp2
          go_meet
          exact ⟨rfl, _, Box.new _ _ _, own_keep (hkq.alloc _) (own_cut0 hO1 hvo) (fun b hb => by cases hb), hkq.alloc _⟩
      case rest =>
        obtain ⟨rfl, v0, hb9, ho9, hk9⟩ := hcut
        rename World => wA
        have hszq := hkq.size
        have hb4c := hb4.keep hk9 (by simp)
        have hAc := hA1.keep hk9 (hRE.out.tagB.keep hK (by simp)).lt (by simp)
        have hTBc : Tag wA B 42 := (hRE.out.tagB.keep hK (by simp)).keep hk9 (by simp)
        have hKc : KeepI base [B] w wA := KeepI.of_nil (hK.trans hk9)
        have hne49 : w.heap.size < w'.heap.size := Nat.lt_of_lt_of_le hb4.tag.lt hszq
        generalize hb9e : w'.heap.size = b9 at *
        generalize hb4e : w.heap.size = b4 at *
        obtain ⟨i0, hi, hz0, hz1, hz2⟩ := info_parts info3b
        generalize hrt : rot now at_ (decide (0 ≤ kp)) = rt at *
        clear hrot kq4 hkq k0 k1 k2 k3 k4 kf hC1 hO1 hA1 hw1 hb4 c4 hK hszq hk9 hao hvo
        have hc4c := hb4c.cell
        go_wp2
        go_loopw [50] (fun v50 wr2 => ∃ j : Nat, j ≤ k ∧ v50 = .int .i64 j ∧ ∃ vf, Box wr2 b9 vf 47 ∧ wr2.ownsRow base 3 1 vf (flt (elig ns now rt kp) j).length ((flt (elig ns now rt kp) j).map enI) ∧ KeepI base [b9] wA wr2) (fun v50 _ => k - (intOf v50).toNat)
        case atStart => exact ⟨0, by omega, rfl, v0, hb9, ho9, KeepI.refl _ _ _⟩
        case round =>
          obtain ⟨j, hj, rfl, vf, hbf, hof, hkf⟩ := hrel
          have hb4r := hkf.box hb4c (by simp; omega) (by decide)
          have hNr := hkf.nsAt hTBc (by simp; exact hTBc.ne hb9.tag (by decide)) (by decide) hAc
          have c4r := hb4r.cell
          by_cases hlt : j < k
          · obtain ⟨d0, d1, d2, d3, d4, d5⟩ := (hNr j (by omega)).1
            have hE : elig ns now rt kp j = (ns[j]!.it && !snub ns[j]!.ld now && (rt || (j : Int) != kp)) := rfl
            have HE : Hid _ := hE
            clear hE
            generalize hx : ns[j]! = x at *
            obtain ⟨it, un, op, ua, ra, ld⟩ := x
            go_upto_region 13 with fail
            go_cut [71] (fun v71 wx => v71 = .bool (it && !snub ld now && (rt || (j : Int) != kp)) ∧ Keep [] wr wx)
            case first =>
              have hsn := fun W => snubbed_walk ld now W
              have hkn : Keep [] wr (wr.alloc (.cells #[.bool it, .bool un, .bool op, .float .f64 ua, .float .f64 ra, .float .f64 ld] 42)) := (Keep.refl [] wr).alloc _
              clear HE hx
              cases it
              · go_wp2
                go_meet
                exact ⟨rfl, hkn⟩
              · cases hs : snub ld now
                · rw [hs] at hsn
                  cases rt
                  · cases hjb : ((j : Int) != kp)
                    · go_wp2_with (go_at_call 24; refine (hsn _).mono ?_; rintro e w5 ⟨rfl, q5, hw5⟩; have hk5 : Keep [] wr w5 := (by rw [hw5]; exact hkn.drewN q5); clear hw5)
                      go_meet
                      exact ⟨by simp [hs, hjb], hk5⟩
                    · go_wp2_with (go_at_call 24; refine (hsn _).mono ?_; rintro e w5 ⟨rfl, q5, hw5⟩; have hk5 : Keep [] wr w5 := (by rw [hw5]; exact hkn.drewN q5); clear hw5)
                      go_meet
                      exact ⟨by simp [hs, hjb], hk5⟩
                  · go_wp2_with (go_at_call 24; refine (hsn _).mono ?_; rintro e w5 ⟨rfl, q5, hw5⟩; have hk5 : Keep [] wr w5 := (by rw [hw5]; exact hkn.drewN q5); clear hw5)
                    go_meet
                    exact ⟨by simp [hs], hk5⟩
                · rw [hs] at hsn
                  go_wp2_with (go_at_call 24; refine (hsn _).mono ?_; rintro e w5 ⟨rfl, q5, hw5⟩; have hk5 : Keep [] wr w5 := (by rw [hw5]; exact hkn.drewN q5); clear hw5)
                  go_meet
                  exact ⟨by simp [hs], hk5⟩
            case rest =>
              obtain ⟨rfl, hkx⟩ := hcut
              rw [← HE.out]
              have hbx := hbf.keep hkx (by simp)
              have hox := own_keep hkx hof (fun b hb => by cases hb)
              have hkix : KeepI base [b9] wA wc := hkf.trans (KeepI.of_nil hkx)
              have hszx := hkix.size
              have hszA := hKc.size
              have hfl := flt_len (elig ns now rt kp) j
              have c9x := hbx.cell
              have f9x := hbx.frozen
              cases he : elig ns now rt kp j
              · have HM : Hid _ := flt_miss he
                go_wp2
                go_roundw
                case rel => exact ⟨j + 1, by omega, by go_num, vf, hbx, by rw [HM.out]; exact hox, hkix⟩
                case measure => simp [intOf]; omega
              · have HM : Hid _ := flt_hit he
                go_wp2_with (at_builtin; refine wpList_append_own _ rfl _ _ 47 rfl base 3 i0 (.int .i64 0) 1 8 Try.underlying47 hi hz0 hz1 hz2 rfl (by decide) _ _ _ rfl (hox.alloc _) ⟨wc.heap.size, 0, none⟩ 1 1 [.int .i64 j] rfl rfl ?c1 ?c2 ?c3 ?c4 ?c5 ?_)
                case c2 => rfl
                case c3 => unfold maxLen; omega
                case c4 => omega
                case c5 => omega
                intro v6x w6 hown6 hgr6 _
                obtain ⟨a6, cc6, rfl⟩ := own_slice hown6
                have hki6 : KeepI base [b9] (wc.alloc (.cells #[.int .i64 (j : Nat)] 3)) w6 := KeepI.of_grown hgr6 (hox.alloc _)
                have hb6 := (KeepI.of_grown (X := []) hgr6 (hox.alloc _)).box (hbx.keep ((Keep.refl [] wc).alloc _) (by simp)) (by simp) (by decide)
                have hb7 := hb6.set (.slice a6 ((flt (elig ns now rt kp) j).length + 1) cc6)
                have ho7 := own_setCell hown6 (p := ⟨b9, 0, none⟩) hb6.tag (by decide) (.slice a6 ((flt (elig ns now rt kp) j).length + 1) cc6)
                have hk7 := (((hkix.alloc _).trans hki6).setCell (p := ⟨b9, 0, none⟩) (.inl (by simp)) (.slice a6 ((flt (elig ns now rt kp) j).length + 1) cc6))
                have c6 := hb6.cell
                have f6 := hb6.frozen
                have HF : Hid _ := (⟨hb7, ho7, hk7⟩ : Box (w6.setCell ⟨b9, 0, none⟩ (.slice a6 ((flt (elig ns now rt kp) j).length + 1) cc6)) b9 (.slice a6 ((flt (elig ns now rt kp) j).length + 1) cc6) 47 ∧ (w6.setCell ⟨b9, 0, none⟩ (.slice a6 ((flt (elig ns now rt kp) j).length + 1) cc6)).ownsRow base 3 1 (.slice a6 ((flt (elig ns now rt kp) j).length + 1) cc6) ((flt (elig ns now rt kp) j).length + 1) (List.map enI (flt (elig ns now rt kp) j) ++ [.int .i64 (j : Nat)]) ∧ KeepI base [b9] wA (w6.setCell ⟨b9, 0, none⟩ (.slice a6 ((flt (elig ns now rt kp) j).length + 1) cc6)))
                clear hown6 hgr6 hki6 hb7 ho7 hk7 hkix hox hb6 hbx
                go_wp2
                go_roundw
                case rel => exact ⟨j + 1, by omega, by go_num, (.slice a6 ((flt (elig ns now rt kp) j).length + 1) cc6), HF.out.1, by rw [HM.out, List.map_append, List.length_append]; exact HF.out.2.1, HF.out.2.2⟩
                case measure => simp [intOf]; omega
          · have : j = k := by omega
            subst this
            clear hj hlt
            have hTBr : Tag wr B 42 := hkf.tag hTBc (by simp; exact hTBc.ne hb9.tag (by decide)) (by decide)
            have hki : KeepI base [B] w wr := hKc.then hkf (fun b hb => .inr (by simp at hb; omega))
            obtain ⟨af, cf, hvf⟩ := own_slice hof
            have hsr := sort_rows (j - 1) (dlt ns) (dle ns) (dle_sto hnan).swo (fun x y h _ => dle_earlier ns x y h) 31 #[.pointer (some ⟨b4, 0, none⟩), .pointer (some ⟨b9, 0, none⟩)] enter31 base vf (flt (elig ns now rt kp) j)
              (fun x hx => by have := (flt_mem.1 hx).1; omega) (flt_inc _ _) (by have := flt_len (elig ns now rt kp) j; omega) wr hof
              (fun blk c hv h2 d0 hd0 hH => by
                have hj2 := flt_len (elig ns now rt kp) j
                rw [hv] at hbf hof
                rw [← hnn] at hb4r
                exact dlessI (j - 1) ns (by omega) wr b4 b9 B blk _ c hb4r hbf hNr hTBr (tag_own hof) d0 hd0 hH)
            rw [hvf] at hsr hbf
            have c9 := hbf.cell
            go_upto_region 17 with (go_at_call 30; refine hsr.mono ?_; rintro e w3 ⟨rfl, srt, hperm, hsort, hos, hks⟩)
            have hkis : KeepI base [B] wr w3 := KeepI.of_own hks (by rw [← hvf]; exact hof)
            have hki3 := hki.trans hkis
            have hkiX : KeepI base [] wr w3 := KeepI.of_own hks (by rw [← hvf]; exact hof)
            have hTB3 : Tag w3 B 42 := hkiX.tag hTBr (by simp) (by decide)
            have hN3 : NsAt w3 B ns := hkiX.nsAt hTBr (by simp) (by decide) hNr
            have hb43 : Box w3 b4 _ 29 := hkiX.box hb4r (by simp) (by decide)
            have hb93 : Box w3 b9 _ 47 := hkiX.box hbf (by simp) (by decide)
            have hlen : (flt (elig ns now rt kp) j).length = srt.length := hperm.length_eq.symm
            rw [hlen] at hos hb93
            have hmem : ∀ x, x ∈ srt → x < j := fun x hx => (flt_mem.1 (hperm.mem_iff.1 hx)).1
            have hP : Hid (srt.Perm (flt (elig ns now rt kp) j)) := hperm
            have hS : Hid (∀ i j, i < j → j < srt.length → dle ns srt[j]! srt[i]! = false) := hsort
            clear hsr hks hkis hkiX hperm hsort hki hbf hb4r c9 c4r hNr hkf hof hb9 ho9 hb4c hc4c hKc hAc hTBc hvf
            have c43 := hb43.cell
            go_wp2
            go_loopw [83] (fun v83 wr => ∃ i : Nat, i ≤ j ∧ v83 = .int .i64 i ∧ NsAt wr B (upd (clr i) ns) ∧ Keep [B] w3 wr ∧ Tag wr B 42) (fun v83 _ => j - (intOf v83).toNat)
            case atStart => exact ⟨0, by omega, rfl, hN3.congr (upd_len _ _) (fun i hi => by rw [upd_at _ _ _ hi]; simp [clr]), Keep.refl _ _, hTB3⟩
            case round =>
              obtain ⟨i, hij, rfl, hNi, hki, hTBi⟩ := hrel
              have c4i := (hb43.keep hki (by simp; exact hb43.tag.ne hTB3 (by decide))).cell
              by_cases hlt : i < j
              · obtain ⟨d0, d1, d2, d3, d4, d5⟩ := (hNi i (by rw [upd_len]; omega)).1
                have f1 := (hNi i (by rw [upd_len]; omega)).2 1 (by omega)
                have f2 := (hNi i (by rw [upd_len]; omega)).2 2 (by omega)
                have HN2 : Hid (NsAt ((wr.setCell ⟨B, i * 6 + 1, none⟩ (.bool false)).setCell ⟨B, i * 6 + 2, none⟩ (.bool false)).drew B (upd (clr (i + 1)) ns) ∧ Keep [B] w3 ((wr.setCell ⟨B, i * 6 + 1, none⟩ (.bool false)).setCell ⟨B, i * 6 + 2, none⟩ (.bool false)).drew ∧ Tag ((wr.setCell ⟨B, i * 6 + 1, none⟩ (.bool false)).setCell ⟨B, i * 6 + 2, none⟩ (.bool false)).drew B 42) :=
                  ⟨NsAt.clear (by omega) hNi, ((hki.setCell (p := ⟨B, i * 6 + 1, none⟩) (.inl (by simp)) _).setCell (p := ⟨B, i * 6 + 2, none⟩) (.inl (by simp)) _).drewN 1, (hTBi.setCell _ _).setCell _ _⟩
                clear hNi hki
                go_wp2_with fail
                go_region
                go_wp2
                go_roundw
                case rel => exact ⟨i + 1, by omega, by go_num, HN2.out.1, HN2.out.2.1, HN2.out.2.2⟩
                case measure => simp [intOf]; omega
              · have : i = j := by omega
                subst this
                clear hij hlt
                have hNc : NsAt wr B (upd (reg []) ns) := NsAt.cleared (by rw [hnn]; exact hNi)
                have hb9i := hb93.keep hki (by simp; exact hb93.tag.ne hTB3 (by decide))
                have hoi := own_keep hki hos (fun b hb => by simp at hb; subst hb; exact own_tag_ne hos hTB3 (by decide))
                have hki4 : KeepI base [B] w wr := hki3.then (KeepI.of_keep (Y := [B]) hki (fun b hb => .inl hb)) (fun b hb => .inl (by simp at hb; simp [hb]))
                have hCk : wr.heap[bc]? = some (.cells #[.int .i64 (slots : Nat), .pointer (some ⟨br, 0, none⟩), .int .i64 rounds, .float .f64 at_, vo] 49 (0, 0)) := by
                  have ht : Tag w bc 49 := ⟨_, hRE.out.chk⟩
                  rw [hki4.same ht (by simp; exact ht.ne hRE.out.tagB (by decide)) (by decide)]; exact hRE.out.chk
                obtain ⟨k0, k1, k2, k3, k4, kf⟩ := chk_cells hCk
                have hcap := (own_cap hos).1
                obtain ⟨M, hM⟩ : ∃ M, M = min srt.length (slots - 1) := ⟨_, rfl⟩
                have hmin : (min (srt.length : Int) ((slots : Int) - 1)) = (M : Int) := by omega
                have hMc : (M : Int) ≤ (cf : Int) := by omega
                have hMl : M ≤ srt.length := by omega
                have hMs : srt.take M = srt.take (slots - 1) := by rw [hM, Nat.min_comm]; exact List.take_eq_take_min.symm
                have HMs : Hid _ := hMs
                clear hMs hM
                have c9i := hb9i.cell
                go_upto_region 22 with fail
                go_cut [104, 105, 106] (fun v104 v105 v106 wx => v104 = .slice af M cf ∧ v105 = .int .i64 (M : Nat) ∧ v106 = .int .i64 0 ∧ ∃ q, wx = wr.drewN q)
                case first =>
                  go_region
                  go_wp2
                  go_meet
                  exact ⟨rfl, rfl, rfl, 1, rfl⟩
                case rest =>
                  obtain ⟨rfl, rfl, rfl, q8, hw8⟩ := hcut
                  have hk8 : Keep [] wr wc := by rw [hw8]; exact (Keep.refl [] wr).drewN q8
                  clear hw8
                  have hN8 : NsAt wc B (upd (reg (srt.take 0)) ns) := hNc.keep hk8 hTBi.lt (by simp)
                  have hb48 : Box wc b4 _ 29 := (hb43.keep hki (by simp; exact hb43.tag.ne hTB3 (by decide))).keep hk8 (by simp)
                  have hb98 := hb9i.keep hk8 (by simp)
                  have ho8 := own_keep hk8 hoi (fun b hb => by cases hb)
                  have hT8 : Tag wc B 42 := hTBi.keep hk8 (by simp)
                  have hki8 : KeepI base [B] w wc := hki4.trans (KeepI.of_nil hk8)
                  clear hNc hb9i hoi hki4 hk8 hki hTBi hb43 hb93 hTB3 hN3 hki3 hos hCk k0 k1 k2 k3 k4 kf c9i c4i c43 hNi
                  rename World => wE
                  go_wp2
                  go_loopw [106, 14] (fun v106 _ wr => ∃ p : Nat, p ≤ M ∧ v106 = .int .i64 p ∧ NsAt wr B (upd (reg (srt.take p)) ns) ∧ Keep [B] wE wr ∧ Tag wr B 42) (fun v106 _ _ => M - (intOf v106).toNat)
                  case atStart => exact ⟨0, by omega, rfl, hN8, Keep.refl _ _, hT8⟩
                  case round =>
                    obtain ⟨p, hpM, rfl, hNp, hkp4, hTp⟩ := hrel
                    have hb4p := hb48.keep hkp4 (by simp; exact hb48.tag.ne hT8 (by decide))
                    have c4p := hb4p.cell
                    have hop := own_keep hkp4 ho8 (fun b hb => by simp at hb; subst hb; exact own_tag_ne ho8 hT8 (by decide))
                    by_cases hlt : p < M
                    · have hx : srt[p]! < ns.length := by
                        rw [hnn]; refine hmem _ ?_
                        rw [getElem!_pos srt p (by omega)]; exact List.getElem_mem _
                      obtain ⟨g, rfl⟩ := own_some hop (by omega)
                      have cx := own_at hop p (by omega)
                      obtain ⟨_, d1, _, _, _, _⟩ := (hNp srt[p]! (by rw [upd_len]; exact hx)).1
                      have f1 := (hNp srt[p]! (by rw [upd_len]; exact hx)).2 1 (by omega)
                      have HN5 : Hid (NsAt (wr.setCell ⟨B, srt[p]! * 6 + 1, none⟩ (.bool true)) B (upd (reg (srt.take (p + 1))) ns) ∧ Keep [B] wE (wr.setCell ⟨B, srt[p]! * 6 + 1, none⟩ (.bool true)) ∧ Tag (wr.setCell ⟨B, srt[p]! * 6 + 1, none⟩ (.bool true)) B 42) :=
                        ⟨NsAt.mark (by omega) hx hNp, hkp4.setCell (p := ⟨B, srt[p]! * 6 + 1, none⟩) (.inl (by simp)) _, hTp.setCell _ _⟩
                      rw [hnn] at hx
                      generalize hxe : srt[p]! = x at *
                      generalize (upd (reg (List.take p srt)) ns)[x]!.un = un1 at *
                      clear hNp hkp4 hTp hop hxe
                      go_wp2
                      go_roundw
                      case rel => exact ⟨p + 1, by omega, by go_num, HN5.out.1, HN5.out.2.1, HN5.out.2.2⟩
                      case measure => simp [intOf]; omega
                    · have : p = M := by omega
                      subst this
                      rw [HMs.out] at hNp
                      have hb9p := hb98.keep hkp4 (by simp; exact hb98.tag.ne hT8 (by decide))
                      have hkip : KeepI base [B] w wr := hki8.then (KeepI.of_keep (Y := [B]) hkp4 (fun b hb => .inl hb)) (fun b hb => .inl hb)
                      have hCk : wr.heap[bc]? = some (.cells #[.int .i64 (slots : Nat), .pointer (some ⟨br, 0, none⟩), .int .i64 rounds, .float .f64 at_, vo] 49 (0, 0)) := by
                        have ht : Tag w bc 49 := ⟨_, hRE.out.chk⟩
                        rw [hkip.same ht (by simp; exact ht.ne hRE.out.tagB (by decide)) (by decide)]; exact hRE.out.chk
                      clear hb98 hki8 hkp4 hT8 ho8 hb48 hN8
                      have hT4 : Hid (Tag w bc 49) := ⟨_, hRE.out.chk⟩
                      have hPr : Holds encU wr bp 0 (row2 s) := hkip.holds hRE.out.tagP (by simp; exact hRE.out.tagP.ne hRE.out.tagB (by decide)) (by decide) hRE.out.pcg
                      have hTP : Tag wr bp 60 := hkip.tag hRE.out.tagP (by simp; exact hRE.out.tagP.ne hRE.out.tagB (by decide)) (by decide)
                      have hBr : Box wr br _ 58 := hkip.box hRE.out.rnd (by simp; exact hRE.out.rnd.tag.ne hRE.out.tagB (by decide)) (by decide)
                      have hkip3 : KeepI base [B, bc, bp] w wr := hkip.mono (fun b hb => .inl (by simp at hb; simp [hb]))
                      obtain ⟨rg, hrg⟩ : ∃ rg, rg = srt.take (slots - 1) := ⟨_, rfl⟩
                      rw [← hrg] at hNp
                      have HRG : Hid (rg = srt.take (slots - 1)) := hrg
                      clear hrg
                      rename World => wF
                      go_upto_if 116 with fail
                      go_cut [15] (fun v15 wx => ∃ (opt : Int) (at' : Nat) (s' : Nat × Nat) (vf' : Value) (nf : Nat) (xf : List Value), v15 = .int .i64 opt ∧ OptR ns rg kp rt now at_ s opt at' ∧ opt < i ∧ Box wx b9 vf' 47 ∧ wx.ownsRow base 3 1 vf' nf xf ∧ NsAt wx B (upd (reg rg) ns) ∧ Tag wx B 42 ∧
                        wx.heap[bc]? = some (.cells #[.int .i64 (slots : Nat), .pointer (some ⟨br, 0, none⟩), .int .i64 rounds, .float .f64 at', vo] 49 (0, 0)) ∧ Holds encU wx bp 0 (row2 s') ∧ s'.2 < 18446744073709551616 ∧ Tag wx bp 60 ∧ KeepI base [B, bc, bp, b9] wF wx)
                      case first =>
                        cases rt
                        · go_wp2
                          go_meet
                          have hkr := keptTo_range ns i
                          exact ⟨kp, at_, s, _, _, _, rfl, .inl ⟨rfl, rfl, rfl⟩, by omega, hb9p, hop, hNp, hTp, hCk, hPr, hRE.out.hs, hTP, KeepI.refl _ _ _⟩
                        · have ho0 : wF.ownsRow base 3 1 (.slice af 0 cf) 0 [] := own_cut hop
                          have c9p := hb9p.cell
                          have hszF := hkip.size
                          obtain ⟨i0, hi, hz0, hz1, hz2⟩ := info_parts info3b
                          clear hrt hP hS
                          go_wp2
                          go_loopw [121, 16] (fun v121 v16 wr => ∃ t : Nat, t ≤ i ∧ v121 = .int .i64 t ∧ wr.ownsRow base 3 1 v16 (flt (cand ns rg kp) t).length ((flt (cand ns rg kp) t).map enI) ∧ KeepI base [] wF wr) (fun v121 _ _ => i - (intOf v121).toNat)
                          case atStart => exact ⟨0, by omega, rfl, ho0, KeepI.refl _ _ _⟩
                          case round =>
                            obtain ⟨t, hti, rfl, hot, hkt⟩ := hrel
                            have hNt := hkt.nsAt hTp (by simp) (by decide) hNp
                            have hb4t := hkt.box hb4p (by simp) (by decide)
                            have c4t := hb4t.cell
                            have hszt := hkt.size
                            have hfl := flt_len (cand ns rg kp) t
                            by_cases hlt : t < i
                            · obtain ⟨d0, d1, d2, d3, d4, d5⟩ := (hNt t (by rw [upd_len]; omega)).1
                              rw [upd_at _ _ _ (by omega)] at d0 d1 d2 d3 d4 d5
                              simp only [reg] at d0 d1 d2 d3 d4 d5
                              have hC0 : cand ns rg kp t = (ns[t]!.it && !rg.contains t && (t : Int) != kp) := rfl
                              have HC : Hid _ := hC0
                              clear hC0
                              generalize hit : ns[t]!.it = it at *
                              generalize hun : rg.contains t = un at *
                              obtain ⟨a16, c16, hv16⟩ := own_slice hot
                              go_upto_region 33 with fail
                              go_cut [137] (fun v137 wx => v137 = .bool (it && !un && (t : Int) != kp) ∧ Keep [] wr wx)
                              case first =>
                                have hkn := fun o => (Keep.refl [] wr).alloc o
                                clear HC hit hun
                                cases it
                                · go_wp2
                                  go_meet
                                  exact ⟨rfl, hkn _⟩
                                · cases un
                                  · cases hjb : ((t : Int) != kp)
                                    · go_wp2
                                      go_meet
                                      exact ⟨by simp [hjb], hkn _⟩
                                    · go_wp2
                                      go_meet
                                      exact ⟨by simp [hjb], hkn _⟩
                                  · go_wp2
                                    go_meet
                                    exact ⟨rfl, hkn _⟩
                              case rest =>
                                obtain ⟨rfl, hkx⟩ := hcut
                                rw [← HC.out]
                                have hox := own_keep hkx hot (fun b hb => by cases hb)
                                rw [hv16] at hox ⊢
                                have hkix : KeepI base [] wF wc := hkt.trans (KeepI.of_nil hkx)
                                have hszx := hkx.size
                                cases he : cand ns rg kp t
                                · have HM : Hid _ := flt_miss he
                                  go_wp2
                                  go_roundw
                                  case rel => exact ⟨t + 1, by omega, by go_num, by rw [HM.out]; exact hox, hkix⟩
                                  case measure => simp [intOf]; omega
                                · have HM : Hid _ := flt_hit he
                                  go_wp2_with (at_builtin; refine wpList_append_own _ rfl _ _ 47 rfl base 3 i0 (.int .i64 0) 1 8 Try.underlying47 hi hz0 hz1 hz2 rfl (by decide) _ _ _ rfl (hox.alloc _) ⟨wc.heap.size, 0, none⟩ 1 1 [.int .i64 t] rfl rfl ?e1 ?e2 ?e3 ?e4 ?e5 ?_)
                                  case e1 => exact cell_one _ _ _
                                  case e2 => intro u hu; simp at hu; subst hu; rfl
                                  case e3 => unfold maxLen; omega
                                  case e4 => omega
                                  case e5 => exact Nat.le_trans (by omega) ((Keep.refl [] wc).alloc _).size
                                  intro v6 w6 hown6 hgr6 _
                                  have hki6 : KeepI base [] (wc.alloc (.cells #[.int .i64 (t : Nat)] 3)) w6 := KeepI.of_grown hgr6 (hox.alloc _)
                                  have HF : Hid (w6.ownsRow base 3 1 v6 ((flt (cand ns rg kp) t).length + 1) (List.map enI (flt (cand ns rg kp) t) ++ [.int .i64 (t : Nat)]) ∧ KeepI base [] wF w6) := ⟨hown6, (hkix.alloc _).trans hki6⟩
                                  clear hown6 hgr6 hki6 hkix hox
                                  go_wp2
                                  go_roundw
                                  case rel => exact ⟨t + 1, by omega, by go_num, by rw [HM.out, List.map_append, List.length_append]; exact HF.out.1, HF.out.2⟩
                                  case measure => simp [intOf]; omega
                            · have : t = i := by omega
                              subst this
                              obtain ⟨a16, c16, rfl⟩ := own_slice hot
                              have hTt := hkt.tag hTp (by simp) (by decide)
                              have hb9t := hkt.box hb9p (by simp) (by decide)
                              have hCt : wr.heap[bc]? = some (.cells #[.int .i64 (slots : Nat), .pointer (some ⟨br, 0, none⟩), .int .i64 rounds, .float .f64 at_, vo] 49 (0, 0)) := by rw [hkt.same ⟨_, hCk⟩ (by simp) (by decide)]; exact hCk
                              have hPt := hkt.holds hTP (by simp) (by decide) hPr
                              have hTPt := hkt.tag hTP (by simp) (by decide)
                              have hBt := hkt.box hBr (by simp) (by decide)
                              have hTct : Tag wr bc 49 := ⟨_, hCt⟩
                              have hs2 := hRE.out.hs
                              have hkF : KeepI base [B, bc, bp, b9] wF wr := hkt.mono (fun b hb => by cases hb)
                              have hne9c : b9 ≠ bc := hb9t.tag.ne hTct (by decide)
                              generalize hcs : flt (cand ns rg kp) t = cs at hot hfl ⊢
                              have hcm : ∀ x, x ∈ cs → x < t := fun x hx => by rw [← hcs] at hx; exact (flt_mem.1 hx).1
                              have hO1 : Hid (cs ≠ [] → ∀ r, DrawR cs.length s r → OptR ns rg kp true now at_ s (cs[r]! : Nat) now) := fun h r hd => .inr (.inl (by rw [hnn, hcs]; exact ⟨rfl, h, rfl, r, hd, rfl⟩))
                              have hO2 : Hid (cs = [] → ∀ opt : Int, opt = (if decide (0 ≤ kp) && rg.contains kp.toNat then -1 else kp) → OptR ns rg kp true now at_ s opt at_) := fun h opt ho => .inr (.inr (by rw [hnn, hcs]; exact ⟨rfl, h, rfl, ho⟩))
                              by_cases hL : 0 < cs.length
                              · obtain ⟨g, rfl⟩ := own_some hot hL
                                have hin := intN_walk cs.length hL (by omega) s hs2 bp br wr hPt hTPt.lt hBt.tag.lt (hBt.tag.ne hTPt (by decide)) hBt.cell
                                have HE : Hid (∀ w7 s7, Leaves encU wr bp 0 (row2 s7) w7 → _) := fun w7 s7 hlv => end_at hb9t hot hNt hTt hCt hTPt hlv.keep (hTPt.leaves hlv) (Leaves.holds (d := row2 s7) hTPt.lt hPt rfl hlv) (.float .f64 now)
                                have HK : Hid (∀ w7 s7, Leaves encU wr bp 0 (row2 s7) w7 → w7.ownsRow base 3 1 _ _ _ ∧ (w7.cell? ⟨bc, 3, none⟩ = some (.float .f64 at_)) ∧ w7.frozen? ⟨bc, 3, none⟩ = false ∧ Box w7 b9 _ 47) := fun w7 s7 hlv => by
                                  have hk := hlv.keep
                                  have hC7 := hCt
                                  rw [← hk.block bc hTct.lt (by simp; exact hTct.ne hTPt (by decide))] at hC7
                                  exact ⟨own_keep hk hot (fun b h => by simp at h; subst h; exact own_tag_ne hot hTPt (by decide)), (chk_cells hC7).2.2.2.1, (chk_cells hC7).2.2.2.2.2 3, hb9t.keep hk (by simp; exact hb9t.tag.ne hTPt (by decide))⟩
                                obtain ⟨_, k1, _, _, _, _⟩ := chk_cells hCt
                                go_wp2_with (go_at_call 32; refine hin.mono ?_; rintro e w7 ⟨r, s7, rfl, hdr, hs7, hlv⟩; have hr7 : r < cs.length := DrawR.lt hL hdr; obtain ⟨ho7, c73, f73, hb7⟩ := HK.out w7 s7 hlv; have c7 := own_at ho7 r hr7; have c79 := hb7.cell; have f79 := hb7.frozen; have HE7 : Hid _ := HE.out w7 s7 hlv; clear hlv ho7 hb7)
                                go_meet
                                obtain ⟨e1, e2, e3, e4, e5, e6, e7, e8⟩ := HE7.out
                                obtain ⟨g1, g2, g3, g4, g5, g6, g7, g8⟩ := end_box e1 e2 e3 e4 e5 e6 e7
                                refine ⟨(cs[r]! : Nat), now, s7, _, _, _, by rw [getElem!_pos cs r hr7], ?_, ?_, g1, g2, g3, g4, g5, g6, hs7, g7, (hkF.trans e8).trans g8⟩
                                · exact hO1.out (fun h => by rw [h] at hL; simp at hL) r hdr
                                · have := hcm cs[r]! (by rw [getElem!_pos cs r hr7]; exact List.getElem_mem _)
                                  omega
                              · have hc0 : cs = [] := List.eq_nil_of_length_eq_zero (by omega)
                                have hl0 : cs.length = 0 := by omega
                                have HG : Hid _ := end_box hb9t hot hNt hTt hCt hPt hTPt
                                have c9t := hb9t.cell
                                have f9t := hb9t.frozen
                                have hkr := keptTo_range ns t
                                by_cases hk0 : 0 ≤ kp
                                · obtain ⟨p, rfl⟩ : ∃ p : Nat, kp = p := ⟨kp.toNat, by omega⟩
                                  obtain ⟨_, d1, _, _, _, _⟩ := (hNt p (by rw [upd_len]; omega)).1
                                  rw [upd_at _ _ _ (by omega)] at d1
                                  simp only [reg] at d1
                                  have hpt : p < t := by omega
                                  cases hrc : rg.contains p
                                  · rw [hrc] at d1
                                    rw [hl0] at *
                                    go_wp2
                                    go_meet
                                    obtain ⟨g1, g2, g3, g4, g5, g6, g7, g8⟩ := HG.out
                                    refine ⟨p, at_, s, _, _, _, rfl, ?_, by omega, g1, g2, g3, g4, g5, g6, hs2, g7, hkF.trans g8⟩
                                    exact hO2.out hc0 _ (by rw [Int.toNat_natCast, hrc, Bool.and_false]; rfl)
                                  · rw [hrc] at d1
                                    rw [hl0] at *
                                    go_wp2
                                    go_meet
                                    obtain ⟨g1, g2, g3, g4, g5, g6, g7, g8⟩ := HG.out
                                    refine ⟨-1, at_, s, _, _, _, rfl, ?_, by omega, g1, g2, g3, g4, g5, g6, hs2, g7, hkF.trans g8⟩
                                    exact hO2.out hc0 _ (by rw [Int.toNat_natCast, hrc]; simp)
                                · rw [hl0] at *
                                  go_wp2
                                  go_meet
                                  obtain ⟨g1, g2, g3, g4, g5, g6, g7, g8⟩ := HG.out
                                  refine ⟨kp, at_, s, _, _, _, rfl, ?_, by omega, g1, g2, g3, g4, g5, g6, hs2, g7, hkF.trans g8⟩
                                  exact hO2.out hc0 _ (by have h : decide (0 ≤ kp) = false := (by simp; omega); rw [h, Bool.false_and]; rfl)
                      case rest =>
                        obtain ⟨opt, at', s', vf', nf, xf, rfl, hopt, hopti, hb9x, hox, hNx, hTx, hCx, hPx, hsx, hTPx, hkx⟩ := hcut
                        obtain ⟨a9, c9x, rfl⟩ := own_slice hox
                        have hb4x := hkx.box hb4p (by simp; exact ⟨hb4p.tag.ne hTp (by decide), hb4p.tag.ne ⟨_, hCk⟩ (by decide), hb4p.tag.ne hTP (by decide), by omega⟩) (by decide)
                        have c4x := hb4x.cell
                        rename World => wG
                        go_upto_if 173 with fail
                        go_cut [7] (fun _ wx => NsAt wx B (upd (fin rg opt) ns) ∧ Keep [B] wG wx ∧ Tag wx B 42)
                        case first =>
                          by_cases ho0 : 0 ≤ opt
                          · obtain ⟨o, rfl⟩ : ∃ o : Nat, opt = o := ⟨opt.toNat, by omega⟩
                            have hoi : o < ns.length := by omega
                            obtain ⟨_, d1, d2, _, _, _⟩ := (hNx o (by rw [upd_len]; exact hoi)).1
                            have f1 := (hNx o (by rw [upd_len]; exact hoi)).2 1 (by omega)
                            have f2 := (hNx o (by rw [upd_len]; exact hoi)).2 2 (by omega)
                            have HN6 : Hid (NsAt ((wG.setCell ⟨B, o * 6 + 1, none⟩ (.bool true)).setCell ⟨B, o * 6 + 2, none⟩ (.bool true)).drew B (upd (fin rg o) ns) ∧ Keep [B] wG ((wG.setCell ⟨B, o * 6 + 1, none⟩ (.bool true)).setCell ⟨B, o * 6 + 2, none⟩ (.bool true)).drew ∧ Tag ((wG.setCell ⟨B, o * 6 + 1, none⟩ (.bool true)).setCell ⟨B, o * 6 + 2, none⟩ (.bool true)).drew B 42) :=
                              ⟨NsAt.choose hoi hNx, (((Keep.refl [B] wG).setCell (p := ⟨B, o * 6 + 1, none⟩) (.inl (by simp)) _).setCell (p := ⟨B, o * 6 + 2, none⟩) (.inl (by simp)) _).drewN 1, (hTx.setCell _ _).setCell _ _⟩
                            rw [hnn] at hoi
                            generalize (upd (reg rg) ns)[o]!.un = un1 at *
                            generalize (upd (reg rg) ns)[o]!.op = op1 at *
                            clear hNx hopt hkx
                            go_wp2_with fail
                            go_region
                            go_wp2
                            go_meet
                            exact HN6.out
                          · go_wp2
                            go_meet
                            exact ⟨NsAt.chooseNone (by omega) hNx, Keep.refl _ _, hTx⟩
                        case rest =>
                          obtain ⟨hNy, hky, hTy⟩ := hcut
                          have hT49 : Tag wG bc 49 := ⟨_, hCx⟩
                          have hCy := hCx
                          rw [← hky.block bc hT49.lt (by simp; exact hT49.ne hTx (by decide))] at hCy
                          have hb9y := hb9x.keep hky (by simp; exact hb9x.tag.ne hTx (by decide))
                          have hoy := own_keep hky hox (fun b hb => by simp at hb; subst hb; exact own_tag_ne hox hTx (by decide))
                          have hPy := hky.holds hTPx.lt (by simp; exact hTPx.ne hTx (by decide)) hPx
                          have hTPy := hTPx.keep hky (by simp; exact hTPx.ne hTx (by decide))
                          have hBy : Box wG br _ 58 := hkx.box hBr (by simp; exact ⟨hBr.tag.ne hTp (by decide), hBr.tag.ne ⟨_, hCk⟩ (by decide), hBr.tag.ne hTP (by decide), hBr.tag.ne hb9p.tag (by decide)⟩) (by decide)
                          have hBz := hBy.keep hky (by simp; exact hBy.tag.ne hTx (by decide))
                          have hkiy : KeepI base [B, bc, bp] w wc := (hkip3.then hkx (fun b hb => (Classical.em (b = b9)).elim (fun h9 => .inr (by omega)) (fun h9 => .inl (by simp [h9] at hb; simp; exact hb)))).then (KeepI.of_keep (Y := [B]) hky (fun b hb => .inl hb)) (fun b hb => .inl (by simp at hb; simp [hb]))
                          obtain ⟨k0, k1, k2, k3, k4, kf⟩ := chk_cells hCy
                          have kf4 := kf 4
                          have c9y := hb9y.cell
                          have hTc : Tag wc bc 49 := ⟨_, hCy⟩
                          have HZ : Hid (Ready (wc.setCell ⟨bc, 4, none⟩ (.slice a9 nf c9x)) bc B bp br base slots rounds at' (.slice a9 nf c9x) nf xf (upd (fin rg opt) ns) s' ∧ KeepI base [B, bc, bp] w (wc.setCell ⟨bc, 4, none⟩ (.slice a9 nf c9x))) := by
                            have hkz : Keep [bc] wc (wc.setCell ⟨bc, 4, none⟩ (.slice a9 nf c9x)) := (Keep.refl _ _).setCell (.inl (by simp)) _
                            refine ⟨⟨chk_set4 hCy _, own_setCell hoy (p := ⟨bc, 4, none⟩) hTc (by decide) _, hNy.keep hkz hTy.lt (by simp; exact hTy.ne hTc (by decide)), hTy.setCell _ _, hkz.holds hTPy.lt (by simp; exact hTPy.ne hTc (by decide)) hPy, hTPy.setCell _ _, hBz.keep hkz (by simp; exact hBz.tag.ne hTc (by decide)), hsx⟩, ?_⟩
                            exact hkiy.setCell (p := ⟨bc, 4, none⟩) (.inl (by simp)) _
                          have HD : Hid (DlR ns slots now at_ s (upd (fin rg opt) ns) at') := by
                            refine ⟨rt, srt, opt, ?_, ?_, hS.out, ?_, by rw [← HRG.out]⟩
                            · rw [hnn, hkp]; exact hrt.symm
                            · rw [hnn, hkp]; exact hP.out
                            · rw [hnn, hkp, ← HRG.out]; exact hopt
                          clear hNy hky hTy hCx hCy hb9x hb9y hox hoy hPx hPy hTPx hTPy hBy hBz hkiy hkx hkip3 hkip hopt hNx hTx hb4x c4x hNp
                          go_wp2
                          go_end0
                          exact ⟨rfl, _, _, _, _, _, _, HD.out, HZ.out.1, HZ.out.2⟩

end Go.Proofs.Qxb6612885a
