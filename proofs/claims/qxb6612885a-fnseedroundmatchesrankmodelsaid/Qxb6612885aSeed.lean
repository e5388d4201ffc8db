/-
  The walk of seedRound.
-/
import Derived.Test.Qxb6612885aSd
import Derived.Test.Qxb6612885aSless
import Derived.Test.Qxb6612885aDown
namespace Go.Proofs.Qxb6612885a
open Go.Shelf Go.RowKit Go.Lib Go.Sort

theorem enter33 (args : Array Value) (w : World) : (callFunc 33 args).run Try.prog w = .ok (.enter 33 args) w := by
  have hf : Try.prog.funcs[33]? = some Try.f33 := Try.func33
  have h1 : Try.f33.name ≠ "runtime.NumGoroutine" := by
    have : (Try.f33.name == "runtime.NumGoroutine") = false := by kernel_rfl
    simpa using this
  have hb : Try.f33.body.isSome = true := by kernel_rfl
  obtain ⟨c, hc⟩ := Option.isSome_iff_exists.1 hb
  simp [callFunc, hf, h1, hc]

theorem own_put {w : World} {base g c n : Nat} {l : List Nat} (ho : w.ownsRow base 3 1 (.slice (some ⟨g, 0, none⟩) n c) n (l.map enI)) (i x : Nat) : (w.setCell ⟨g, i, none⟩ (.int .i64 (x : Nat))).ownsRow base 3 1 (.slice (some ⟨g, 0, none⟩) n c) n ((l.set i x).map enI) := by
  rw [List.map_set]
  exact (ho.stored i _).1

set_option maxHeartbeats 40000000 in
set_option maxRecDepth 100000 in
theorem seed_walk (w : World) (bc B bp br base slots : Nat) (rounds : Int) (at_ : Nat) (per : Bool) (vo : Value) (no : Nat) (xo : List Value) (ns : List N) (s : Nat × Nat) (hsl : 1 ≤ slots) (hsl2 : slots < 9223372036854775808) (hn : ns.length ≤ 4096) (hbase : base ≤ w.heap.size) (hnan : ∀ i : Nat, Flt.nan ns[i]!.ra = false) (hnanu : ∀ i : Nat, Flt.nan ns[i]!.ua = false)
    (hR : Ready w bc B bp br base slots rounds at_ vo no xo ns s) :
    Calls Try.prog 27 #[.pointer (some ⟨bc, 0, none⟩), .slice (some ⟨B, 0, none⟩) ns.length ns.length, .bool per] w fun e w' => e = .returned (.tuple #[]) ∧ ∃ ms vo' no' xo' s', SdR ns slots rounds per s ms ∧ Ready w' bc B bp br base slots rounds at_ vo' no' xo' ms s' ∧ KeepI base [B, bc, bp] w w' := by
  obtain ⟨n, hnn⟩ : ∃ n, ns.length = n := ⟨_, rfl⟩
  rw [hnn] at hn ⊢
  have hA := hR.ns
  have hb4 := Box.new w (.slice (some ⟨B, 0, none⟩) n n) 29
  have hK : Keep [] w (w.alloc (.cells #[.slice (some ⟨B, 0, none⟩) n n] 29)) := (Keep.refl [] w).alloc _
  have hA1 := hA.keep hK hR.tagB.lt (by simp)
  have hTB1 : Tag (w.alloc (.cells #[.slice (some ⟨B, 0, none⟩) n n] 29)) B 42 := hR.tagB.keep hK (by simp)
  have hC1 : (w.alloc (.cells #[.slice (some ⟨B, 0, none⟩) n n] 29)).heap[bc]? = some (.cells #[.int .i64 (slots : Nat), .pointer (some ⟨br, 0, none⟩), .int .i64 rounds, .float .f64 at_, vo] 49 (0, 0)) := by rw [hK.block bc (Array.getElem?_eq_some_iff.1 hR.chk).1 (by simp)]; exact hR.chk
  have hO1 := own_keep hK hR.own (fun b hb => by cases hb)
  obtain ⟨k0, k1, k2, k3, k4, kf⟩ := chk_cells hC1
  have hRE : Hid (Ready w bc B bp br base slots rounds at_ vo no xo ns s) := hR
  obtain ⟨ao, co, hvo, hao⟩ : ∃ ao co, vo = .slice ao no co ∧ ((ao = none ∧ co = 0) ∨ ∃ g, ao = some ⟨g, 0, none⟩) := by
    rcases hR.own.2 with ⟨h, h0⟩ | ⟨g, cap, _, h, _⟩
    · exact ⟨none, 0, by rw [h, h0], .inl ⟨rfl, rfl⟩⟩
    · exact ⟨_, cap, h, .inr ⟨g, rfl⟩⟩
  rw [hvo] at k4
  clear hA hR
  go_enter Try.func27, Try.ntmps27
  go_upto_region 1 with fail
  generalize hw1 : w.alloc (.cells #[.slice (some ⟨B, 0, none⟩) n n] 29) = w1 at *
  go_cut [6] (fun v6 wx => v6 = .pointer (some ⟨w1.heap.size, 0, none⟩) ∧ ∃ v0, Box wx w1.heap.size v0 47 ∧ wx.ownsRow base 3 1 v0 0 [] ∧ Keep [] w1 wx)
  case first =>
    rcases hao with ⟨rfl, rfl⟩ | ⟨g, rfl⟩
    · go_wp2
      go_meet
      exact ⟨rfl, _, Box.new _ _ _, World.ownsRow_nil _ _ _ _, (Keep.refl [] w1).alloc _⟩
    · go_wp2
      go_meet
      exact ⟨rfl, _, Box.new _ _ _, own_keep ((Keep.refl [] w1).alloc _) (own_cut0 hO1 hvo) (fun b hb => by cases hb), (Keep.refl [] w1).alloc _⟩
  case rest =>
    obtain ⟨rfl, v0, hb9, ho9, hk9⟩ := hcut
    rename World => wA
    have hb4c := hb4.keep hk9 (by simp)
    have hAc := hA1.keep hk9 hTB1.lt (by simp)
    have hTBc : Tag wA B 42 := hTB1.keep hk9 (by simp)
    have hKc : KeepI base [B] w wA := KeepI.of_nil (hK.trans hk9)
    have hne49 : w.heap.size < w1.heap.size := hb4.tag.lt
    generalize hb9e : w1.heap.size = b9 at *
    generalize hb4e : w.heap.size = b4 at *
    obtain ⟨i0, hi, hz0, hz1, hz2⟩ := info_parts info3b
    clear k0 k1 k2 k3 k4 kf hC1 hO1 hA1 hw1 hb4 hK hk9 hao hvo hTB1
    have hc4c := hb4c.cell
    go_wp2
    go_loopw [20] (fun v20 wr2 => ∃ j : Nat, j ≤ n ∧ v20 = .int .i64 j ∧ ∃ vf, Box wr2 b9 vf 47 ∧ wr2.ownsRow base 3 1 vf (flt (isI ns) j).length ((flt (isI ns) j).map enI) ∧ KeepI base [b9] wA wr2) (fun v20 _ => n - (intOf v20).toNat)
    case atStart => exact ⟨0, by omega, rfl, v0, hb9, ho9, KeepI.refl _ _ _⟩
    case round =>
      obtain ⟨j, hj, rfl, vf, hbf, hof, hkf⟩ := hrel
      have hb4r := hkf.box hb4c (by simp; omega) (by decide)
      have hNr := hkf.nsAt hTBc (by simp; exact hTBc.ne hb9.tag (by decide)) (by decide) hAc
      have c4r := hb4r.cell
      by_cases hlt : j < n
      · as_aux_lemma =>
          obtain ⟨d0, _, _, _, _, _⟩ := (hNr j (by omega)).1
          have hszx := hkf.size
          have hszA := hKc.size
          have hfl := flt_len (isI ns) j
          have c9x := hbf.cell
          have f9x := hbf.frozen
          have hE : isI ns j = ns[j]!.it := rfl
          rw [← hE] at d0
          cases he : isI ns j
          · rw [he] at d0
            have HM : Hid _ := flt_miss he
            go_wp2
            go_roundw
            case rel => exact ⟨j + 1, by omega, by go_num, vf, hbf, by rw [HM.out]; exact hof, hkf⟩
            case measure => simp [intOf]; omega
          · rw [he] at d0
            have HM : Hid _ := flt_hit he
            go_wp2_with (at_builtin; refine wpList_append_own _ rfl _ _ 47 rfl base 3 i0 (.int .i64 0) 1 8 Try.underlying47 hi hz0 hz1 hz2 rfl (by decide) _ _ _ rfl (hof.alloc _) ⟨wr.heap.size, 0, none⟩ 1 1 [.int .i64 j] rfl rfl ?c1 ?c2 ?c3 ?c4 ?c5 ?_)
            case c1 => exact cell_one _ _ _
            case c2 => intro u hu; simp at hu; subst hu; rfl
            case c3 => unfold maxLen; omega
            case c4 => omega
            case c5 => exact Nat.le_trans (by omega) ((Keep.refl [] wr).alloc _).size
            intro v6x w6 hown6 hgr6 _
            obtain ⟨a6, cc6, rfl⟩ := own_slice hown6
            have hki6 : KeepI base [b9] (wr.alloc (.cells #[.int .i64 (j : Nat)] 3)) w6 := KeepI.of_grown hgr6 (hof.alloc _)
            have hb6 := (KeepI.of_grown (X := []) hgr6 (hof.alloc _)).box (hbf.keep ((Keep.refl [] wr).alloc _) (by simp)) (by simp) (by decide)
            have hb7 := hb6.set (.slice a6 ((flt (isI ns) j).length + 1) cc6)
            have ho7 := own_setCell hown6 (p := ⟨b9, 0, none⟩) hb6.tag (by decide) (.slice a6 ((flt (isI ns) j).length + 1) cc6)
            have hk7 := (((hkf.alloc _).trans hki6).setCell (p := ⟨b9, 0, none⟩) (.inl (by simp)) (.slice a6 ((flt (isI ns) j).length + 1) cc6))
            have c6 := hb6.cell
            have f6 := hb6.frozen
            have HF : Hid _ := (⟨hb7, ho7, hk7⟩ : Box (w6.setCell ⟨b9, 0, none⟩ (.slice a6 ((flt (isI ns) j).length + 1) cc6)) b9 (.slice a6 ((flt (isI ns) j).length + 1) cc6) 47 ∧ (w6.setCell ⟨b9, 0, none⟩ (.slice a6 ((flt (isI ns) j).length + 1) cc6)).ownsRow base 3 1 (.slice a6 ((flt (isI ns) j).length + 1) cc6) ((flt (isI ns) j).length + 1) (List.map enI (flt (isI ns) j) ++ [.int .i64 (j : Nat)]) ∧ KeepI base [b9] wA (w6.setCell ⟨b9, 0, none⟩ (.slice a6 ((flt (isI ns) j).length + 1) cc6)))
            clear hown6 hgr6 hki6 hb7 ho7 hk7 hkf hof hb6 hbf
            go_wp2
            go_roundw
            case rel => exact ⟨j + 1, by omega, by go_num, (.slice a6 ((flt (isI ns) j).length + 1) cc6), HF.out.1, by rw [HM.out, List.map_append, List.length_append]; exact HF.out.2.1, HF.out.2.2⟩
            case measure => simp [intOf]; omega
      · have : j = n := by omega
        subst this
        clear hj hlt
        have hTBr : Tag wr B 42 := hkf.tag hTBc (by simp; exact hTBc.ne hb9.tag (by decide)) (by decide)
        have hki : KeepI base [B] w wr := hKc.then hkf (fun b hb => .inr (by simp at hb; omega))
        obtain ⟨af, cf, hvf⟩ := own_slice hof
        have hsr := sort_rows (j - 1) (slt ns) (sle ns) (sle_sto hnan hnanu).swo (fun x y h _ => sle_earlier ns x y h) 33 #[.pointer (some ⟨b4, 0, none⟩), .pointer (some ⟨b9, 0, none⟩)] enter33 base vf (flt (isI ns) j)
          (fun x hx => by have := (flt_mem.1 hx).1; omega) (flt_inc _ _) (by have := flt_len (isI ns) j; omega) wr hof
          (fun blk c hv h2 d0 hd0 hH => by
            have hj2 := flt_len (isI ns) j
            rw [hv] at hbf hof
            rw [← hnn] at hb4r
            exact slessI (j - 1) ns (by omega) wr b4 b9 B blk _ c hb4r hbf hNr hTBr (tag_own hof) d0 hd0 hH)
        rw [hvf] at hsr hbf
        have c9 := hbf.cell
        go_upto_region 9 with (go_at_call 30; refine hsr.mono ?_; rintro e w3 ⟨rfl, srt, hperm, hsort, hos, hks⟩)
        have hkis : KeepI base [B] wr w3 := KeepI.of_own hks (by rw [← hvf]; exact hof)
        have hki3 := hki.trans hkis
        have hkiX : KeepI base [] wr w3 := KeepI.of_own hks (by rw [← hvf]; exact hof)
        have hTB3 : Tag w3 B 42 := hkiX.tag hTBr (by simp) (by decide)
        have hN3 : NsAt w3 B ns := hkiX.nsAt hTBr (by simp) (by decide) hNr
        have hb43 : Box w3 b4 _ 29 := hkiX.box hb4r (by simp) (by decide)
        have hb93 : Box w3 b9 _ 47 := hkiX.box hbf (by simp) (by decide)
        have hlen : (flt (isI ns) j).length = srt.length := hperm.length_eq.symm
        rw [hlen] at hos hb93 ⊢
        have hfl : srt.length ≤ j := by rw [← hlen]; exact flt_len _ _
        have hmem : ∀ x, x ∈ srt → x < j := fun x hx => (flt_mem.1 (hperm.mem_iff.1 hx)).1
        have hP : Hid (srt.Perm (flt (isI ns) j)) := hperm
        have hS : Hid (∀ i j, i < j → j < srt.length → sle ns srt[j]! srt[i]! = false) := hsort
        have hCk : w3.heap[bc]? = some (.cells #[.int .i64 (slots : Nat), .pointer (some ⟨br, 0, none⟩), .int .i64 rounds, .float .f64 at_, vo] 49 (0, 0)) := by
          have ht : Tag w bc 49 := ⟨_, hRE.out.chk⟩
          rw [hki3.same ht (by simp; exact ht.ne hRE.out.tagB (by decide)) (by decide)]; exact hRE.out.chk
        have hPr : Holds encU w3 bp 0 (row2 s) := hki3.holds hRE.out.tagP (by simp; exact hRE.out.tagP.ne hRE.out.tagB (by decide)) (by decide) hRE.out.pcg
        have hTP : Tag w3 bp 60 := hki3.tag hRE.out.tagP (by simp; exact hRE.out.tagP.ne hRE.out.tagB (by decide)) (by decide)
        have hBr : Box w3 br _ 58 := hki3.box hRE.out.rnd (by simp; exact hRE.out.rnd.tag.ne hRE.out.tagB (by decide)) (by decide)
        have hki33 : KeepI base [B, bc, bp] w w3 := hki3.mono (fun b hb => .inl (by simp at hb; simp [hb]))
        clear hsr hks hkis hkiX hperm hsort hki hki3 hbf hb4r c9 c4r hNr hkf hof hb9 ho9 hb4c hc4c hKc hAc hTBc hvf hlen
        obtain ⟨k0, k1, k2, _, _, _⟩ := chk_cells hCk
        have c93 := hb93.cell
        go_upto_region 10 with fail
        go_cut [58] (fun v58 wx => v58 = .bool (draws rounds per slots srt.length) ∧ ∃ q, wx = w3.drewN q)
        case first =>
          clear hS hP hRE
          cases per
          · go_quiet (fail)
            go_wp2
            go_meet
            exact ⟨rfl, _, rfl⟩
          · cases hr3 : (rounds.tmod 3 != 0)
            · go_quiet (fail)
              go_wp2
              go_meet
              exact ⟨by unfold draws; rw [hr3]; rfl, _, rfl⟩
            · by_cases hls : slots ≤ srt.length
              · go_quiet (fail)
                go_wp2
                go_meet
                exact ⟨by unfold draws; rw [hr3, decide_eq_true hls]; rfl, _, rfl⟩
              · go_quiet (fail)
                go_wp2
                go_meet
                exact ⟨by unfold draws; rw [hr3, decide_eq_false hls]; rfl, _, rfl⟩
        case rest =>
          obtain ⟨rfl, q8, hw8⟩ := hcut
          have hk8 : Keep [] w3 wc := by rw [hw8]; exact (Keep.refl [] w3).drewN q8
          clear hw8
          have hN8 := hN3.keep hk8 hTB3.lt (by simp)
          have hT8 := hTB3.keep hk8 (by simp)
          have hb48 := hb43.keep hk8 (by simp)
          have hb98 := hb93.keep hk8 (by simp)
          have ho8 := own_keep hk8 hos (fun b hb => by cases hb)
          have hC8 : wc.heap[bc]? = some (.cells #[.int .i64 (slots : Nat), .pointer (some ⟨br, 0, none⟩), .int .i64 rounds, .float .f64 at_, vo] 49 (0, 0)) := by
            have ht : Tag w3 bc 49 := ⟨_, hCk⟩
            rw [hk8.block bc ht.lt (by simp)]; exact hCk
          have hP8 := hk8.holds hTP.lt (by simp) hPr
          have hTP8 := hTP.keep hk8 (by simp)
          have hB8 := hBr.keep hk8 (by simp)
          have hki8 : KeepI base [B, bc, bp] w wc := hki33.trans (KeepI.of_nil hk8)
          clear hN3 hTB3 hb43 hb93 hos hCk hPr hTP hBr hki33 hk8 c93 k0 k1 k2
          rename World => wE
          have hs2 := hRE.out.hs
          go_upto_if 58 with fail
          go_cut [8] (fun v8 wx => v8 = .int .i64 (slots : Nat) ∧ ∃ (ord : List Nat) (s' : Nat × Nat), Hid (SdOrd slots rounds per s srt ord) ∧ ord.length = srt.length ∧ (∀ x, x ∈ ord → x < j) ∧ Box wx b9 (.slice af srt.length cf) 47 ∧ wx.ownsRow base 3 1 (.slice af srt.length cf) srt.length (ord.map enI) ∧ NsAt wx B ns ∧ Tag wx B 42 ∧
            wx.heap[bc]? = some (.cells #[.int .i64 (slots : Nat), .pointer (some ⟨br, 0, none⟩), .int .i64 rounds, .float .f64 at_, vo] 49 (0, 0)) ∧ Holds encU wx bp 0 (row2 s') ∧ s'.2 < 18446744073709551616 ∧ Tag wx bp 60 ∧ KeepI base [B, bc, bp] wE wx)
          case first =>
            cases hdr : draws rounds per slots srt.length
            · have HO : Hid (SdOrd slots rounds per s srt srt) := (.inl ⟨hdr, rfl⟩ : SdOrd slots rounds per s srt srt)
              go_wp2
              go_meet
              exact ⟨rfl, srt, s, HO, rfl, hmem, hb98, ho8, hN8, hT8, hC8, hP8, hs2, hTP8, KeepI.refl _ _ _⟩
            · have hlen : slots ≤ srt.length := by
                have := hdr
                unfold draws at this
                simp only [Bool.and_eq_true, decide_eq_true_eq] at this
                exact this.2
              obtain ⟨g, rfl⟩ := own_some ho8 (by omega)
              have hTct : Tag wE bc 49 := ⟨_, hC8⟩
              have HO : Hid (∀ r, DrawR (srt.length - (slots - 1)) s r → SdOrd slots rounds per s srt ((srt.set (slots - 1) srt[slots - 1 + r]!).set (slots - 1 + r) srt[slots - 1]!)) := fun r hr => .inr ⟨hdr, r, hr, rfl⟩
              obtain ⟨k, rfl⟩ : ∃ k, slots = k + 1 := ⟨slots - 1, by omega⟩
              simp only [Nat.add_sub_cancel] at HO
              have hpos : 0 < srt.length - k := by omega
              have hkd : Keep [bp] wE wE.drew := (Keep.refl _ _).drew
              have hne : br ≠ bp := hB8.tag.ne hTP8 (by decide)
              have hin := intN_walk (srt.length - k) hpos (by omega) s hs2 bp br wE.drew (((Keep.refl [] wE).drew).holds hTP8.lt (by simp) hP8) hTP8.lt hB8.tag.lt hne hB8.cell
              obtain ⟨_, k1, _, _, _, _⟩ := chk_cells hC8
              have c98 := hb98.cell
              have hmm : ((srt.length : Int) - (k : Int)) = ((srt.length - k : Nat) : Int) := by omega
              have hwr : IntKind.i64.wrap ((srt.length - k : Nat) : Int) = ((srt.length - k : Nat) : Int) := by rw [IntKind.wrap_i64]; omega
              have HK : Hid (∀ W, Keep [bp] wE W → (W.cell? ⟨bc, 1, none⟩ = some (.pointer (some ⟨br, 0, none⟩)) ∧ W.cell? ⟨b9, 0, none⟩ = some (.slice (some ⟨g, 0, none⟩) srt.length cf) ∧ Keep [bp] wE W)) := fun W hW => ⟨by rw [hW.cell hTct.lt (by simp; exact hTct.ne hTP8 (by decide))]; exact k1, by rw [hW.cell hb98.tag.lt (by simp; exact hb98.tag.ne hTP8 (by decide))]; exact c98, hW⟩
              go_upto_region 12 with fail
              go_cut [9] (fun v9 wx => ∃ (r : Nat) (s7 : Nat × Nat), v9 = .int .i64 ((k + r : Nat) : Int) ∧ r < srt.length - k ∧ Hid (DrawR (srt.length - k) s r) ∧ s7.2 < 18446744073709551616 ∧ Leaves encU wE.drew bp 0 (row2 s7) wx)
              case first =>
                go_region_held3 (fun W => W.cell? ⟨bc, 1, none⟩ = some (.pointer (some ⟨br, 0, none⟩)) ∧ W.cell? ⟨b9, 0, none⟩ = some (.slice (some ⟨g, 0, none⟩) srt.length cf) ∧ Keep [bp] wE W)
                  ((refine HK.out _ ?_; first | exact hkd | assumption))
                  (first | (go_at_call 32; refine hin.mono ?_; rintro e w7 ⟨r, s7, rfl, hdr7, hs7, hlv⟩; have hk7 : Keep [bp] wE w7 := hkd.trans hlv.keep; have hrl := DrawR.lt hpos hdr7; have hwk : IntKind.i64.wrap ((k : Int) + (r : Int)) = ((k + r : Nat) : Int) := (by rw [IntKind.wrap_i64]; omega); have HD : Hid (DrawR (srt.length - k) s r) := hdr7; clear hdr7))
                all_goals
                  go_wp2
                  go_meet
                  exact ⟨r, s7, by go_num, hrl, HD, hs7, hlv⟩
              case rest =>
                obtain ⟨r, s7, rfl, hrl, HD, hs7, hlv⟩ := hcut
                have hk7 : Keep [bp] wE wc := hkd.trans hlv.keep
                have hTPd : Tag wE.drew bp 60 := hTP8
                have hTP7 : Tag wc bp 60 := hTPd.leaves hlv
                have hP7 : Holds encU wc bp 0 (row2 s7) := Leaves.holds (W := wE.drew) (d := row2 s7) hTPd.lt (((Keep.refl [] wE).drew).holds hTP8.lt (by simp) hP8) rfl hlv
                have hb97 := hb98.keep hk7 (by simp; exact hb98.tag.ne hTP8 (by decide))
                have ho7 := own_keep hk7 ho8 (fun b h => by simp at h; subst h; exact own_tag_ne ho8 hTP8 (by decide))
                have hN7 := hN8.keep hk7 hT8.lt (by simp; exact hT8.ne hTP8 (by decide))
                have hT7 := hT8.keep hk7 (by simp; exact hT8.ne hTP8 (by decide))
                have hC7 := hC8
                rw [← hk7.block bc hTct.lt (by simp; exact hTct.ne hTP8 (by decide))] at hC7
                have hki7 : KeepI base [B, bc, bp] wE wc := KeepI.of_keep hk7 (fun b h => .inl (by simp at h; simp [h]))
                clear hlv hk7 hin HK
                rename World => w7
                obtain ⟨p, hp⟩ : ∃ p, p = k + r := ⟨_, rfl⟩
                have hpl : p < srt.length := by omega
                have hkl : k < srt.length := by omega
                have ck := own_at ho7 k hkl
                have cp := own_at ho7 p hpl
                have fk := World.ownsRow.frozenAt ho7 k
                have fp := World.ownsRow.frozenAt ho7 p
                have c97 := hb97.cell
                have hg9 : b9 ≠ g := hb97.tag.ne (tag_own ho7) (by decide)
                have hg9' : g ≠ b9 := fun e => hg9 e.symm
                have HF : Hid (((w7.setCell ⟨g, k, none⟩ (.int .i64 (srt[p]! : Nat))).setCell ⟨g, p, none⟩ (.int .i64 (srt[k]! : Nat))).drew.ownsRow base 3 1 (.slice (some ⟨g, 0, none⟩) srt.length cf) srt.length (((srt.set k srt[p]!).set p srt[k]!).map enI) ∧ Keep [g] w7 ((w7.setCell ⟨g, k, none⟩ (.int .i64 (srt[p]! : Nat))).setCell ⟨g, p, none⟩ (.int .i64 (srt[k]! : Nat))).drew) :=
                  ⟨own_put (own_put ho7 k srt[p]!) p srt[k]!, (((Keep.refl [g] w7).setCell (p := ⟨g, k, none⟩) (.inl (by simp)) _).setCell (p := ⟨g, p, none⟩) (.inl (by simp)) _).drew⟩
                have HO7 : Hid (SdOrd (k + 1) rounds per s srt ((srt.set k srt[p]!).set p srt[k]!)) := by rw [hp]; exact HO.out r HD.out
                have hxm : srt[p]! < j := hmem _ (by rw [getElem!_pos srt p hpl]; exact List.getElem_mem _)
                have hym : srt[k]! < j := hmem _ (by rw [getElem!_pos srt k hkl]; exact List.getElem_mem _)
                rw [← hp]
                clear HO HD hp
                generalize hox : srt[p]! = x at *
                generalize hoy : srt[k]! = y at *
                have HE : Hid (∀ wx, Keep [g] w7 wx → wx.ownsRow base 3 1 (.slice (some ⟨g, 0, none⟩) srt.length cf) srt.length (((srt.set k x).set p y).map enI) → (((srt.set k x).set p y).length = srt.length ∧ (∀ z, z ∈ (srt.set k x).set p y → z < j) ∧ Box wx b9 (.slice (some ⟨g, 0, none⟩) srt.length cf) 47 ∧ wx.ownsRow base 3 1 (.slice (some ⟨g, 0, none⟩) srt.length cf) srt.length (((srt.set k x).set p y).map enI) ∧ NsAt wx B ns ∧ Tag wx B 42 ∧
                    wx.heap[bc]? = some (.cells #[.int .i64 ((k + 1 : Nat) : Int), .pointer (some ⟨br, 0, none⟩), .int .i64 rounds, .float .f64 at_, vo] 49 (0, 0)) ∧ Holds encU wx bp 0 (row2 s7) ∧ s7.2 < 18446744073709551616 ∧ Tag wx bp 60 ∧ KeepI base [B, bc, bp] wE wx)) := fun wx hkx hox => by
                  have hTg : Tag w7 g 3 := tag_own ho7
                  have hTc7 : Tag w7 bc 49 := ⟨_, hC7⟩
                  refine ⟨by simp, fun z hz => ?_, hb97.keep hkx (by simp; exact hb97.tag.ne hTg (by decide)), hox, hN7.keep hkx hT7.lt (by simp; exact hT7.ne hTg (by decide)), hT7.keep hkx (by simp; exact hT7.ne hTg (by decide)), ?_, hkx.holds hTP7.lt (by simp; exact hTP7.ne hTg (by decide)) hP7, hs7, hTP7.keep hkx (by simp; exact hTP7.ne hTg (by decide)), hki7.trans ?_⟩
                  · rcases List.mem_or_eq_of_mem_set hz with h | h
                    · rcases List.mem_or_eq_of_mem_set h with h | h
                      · exact hmem z h
                      · omega
                    · omega
                  · rw [hkx.block bc hTc7.lt (by simp; exact hTc7.ne hTg (by decide))]; exact hC7
                  · exact KeepI.of_own (v := .slice (some ⟨g, 0, none⟩) srt.length cf) hkx ho7
                clear hN7 hC7 hP7 hki7 ho7 hb97 hT7 hTP7 hN8 hC8 hP8 hki8 ho8 hb98 hT8 hTP8 hTPd hkd hS hP
                by_cases hpk : p = k
                · subst hpk
                  have hxy : x = y := by rw [← hox, ← hoy]
                  subst hxy
                  go_wp2_with fail
                  go_region
                  all_goals
                    go_wp2
                    go_meet
                    exact ⟨by go_num, _, s7, HO7, HE.out _ HF.out.2 HF.out.1⟩
                · go_wp2_with fail
                  go_region
                  all_goals
                    go_wp2
                    go_meet
                    exact ⟨by go_num, _, s7, HO7, HE.out _ HF.out.2 HF.out.1⟩
          case rest =>
            obtain ⟨rfl, ord, s', hO, hol, hom, hb9r, hor, hNr, hTr, hCr, hPr, hsr, hTPr, hkr⟩ := hcut
            have hb4r : Box wc b4 _ 29 := hkr.box hb48 (by simp; exact ⟨hb48.tag.ne hT8 (by decide), hb48.tag.ne ⟨_, hC8⟩ (by decide), hb48.tag.ne hTP8 (by decide)⟩) (by decide)
            have hBr : Box wc br _ 58 := hkr.box hB8 (by simp; exact ⟨hB8.tag.ne hT8 (by decide), hB8.tag.ne ⟨_, hC8⟩ (by decide), hB8.tag.ne hTP8 (by decide)⟩) (by decide)
            have hkiR : KeepI base [B, bc, bp] w wc := hki8.trans hkr
            clear hN8 hT8 hb48 hb98 ho8 hC8 hP8 hTP8 hB8 hki8 hkr
            rename World => wF
            have c4r := hb4r.cell
            go_wp2
            go_loopw [90] (fun v90 wr => ∃ i : Nat, i ≤ j ∧ v90 = .int .i64 i ∧ NsAt wr B (upd (clr i) ns) ∧ Keep [B] wF wr ∧ Tag wr B 42) (fun v90 _ => j - (intOf v90).toNat)
            case atStart => exact ⟨0, by omega, rfl, hNr.congr (upd_len _ _) (fun i hi => by rw [upd_at _ _ _ hi]; simp [clr]), Keep.refl _ _, hTr⟩
            case round =>
              obtain ⟨i, hij, rfl, hNi, hki, hTBi⟩ := hrel
              have c4i := (hb4r.keep hki (by simp; exact hb4r.tag.ne hTr (by decide))).cell
              by_cases hlt : i < j
              · as_aux_lemma =>
                  obtain ⟨d0, d1, d2, d3, d4, d5⟩ := (hNi i (by rw [upd_len]; omega)).1
                  have f1 := (hNi i (by rw [upd_len]; omega)).2 1 (by omega)
                  have f2 := (hNi i (by rw [upd_len]; omega)).2 2 (by omega)
                  have HN2 : Hid (NsAt ((wr.setCell ⟨B, i * 6 + 1, none⟩ (.bool false)).setCell ⟨B, i * 6 + 2, none⟩ (.bool false)).drew B (upd (clr (i + 1)) ns) ∧ Keep [B] wF ((wr.setCell ⟨B, i * 6 + 1, none⟩ (.bool false)).setCell ⟨B, i * 6 + 2, none⟩ (.bool false)).drew ∧ Tag ((wr.setCell ⟨B, i * 6 + 1, none⟩ (.bool false)).setCell ⟨B, i * 6 + 2, none⟩ (.bool false)).drew B 42) :=
                    ⟨NsAt.clear (by omega) hNi, ((hki.setCell (p := ⟨B, i * 6 + 1, none⟩) (.inl (by simp)) _).setCell (p := ⟨B, i * 6 + 2, none⟩) (.inl (by simp)) _).drewN 1, (hTBi.setCell _ _).setCell _ _⟩
                  clear hNi hki hNr hor hb9r hCr hPr hO
                  go_wp2_with fail
                  go_region
                  go_wp2
                  go_roundw
                  case rel => exact ⟨i + 1, by omega, by go_num, HN2.out.1, HN2.out.2.1, HN2.out.2.2⟩
                  case measure => simp [intOf]; omega
              · have : i = j := by omega
                subst this
                clear hij hlt
                have hNc : NsAt wr B (upd (reg []) ns) := NsAt.cleared (by rw [hnn]; exact hNi)
                have hb9i := hb9r.keep hki (by simp; exact hb9r.tag.ne hTr (by decide))
                have hoi := own_keep hki hor (fun b hb => by simp at hb; subst hb; exact own_tag_ne hor hTr (by decide))
                have hTc : Tag wF bc 49 := ⟨_, hCr⟩
                have hCi := hCr
                rw [← hki.block bc hTc.lt (by simp; exact hTc.ne hTr (by decide))] at hCi
                have hPi := hki.holds hTPr.lt (by simp; exact hTPr.ne hTr (by decide)) hPr
                have hTPi := hTPr.keep hki (by simp; exact hTPr.ne hTr (by decide))
                have hBi := hBr.keep hki (by simp; exact hBr.tag.ne hTr (by decide))
                have hb4i := hb4r.keep hki (by simp; exact hb4r.tag.ne hTr (by decide))
                have hki4 : KeepI base [B, bc, bp] w wr := hkiR.trans (KeepI.of_keep (Y := [B, bc, bp]) hki (fun b hb => .inl (by simp at hb; simp [hb])))
                rw [← hol] at hoi hb9i
                have hcap := (own_cap hoi).1
                obtain ⟨M, hM⟩ : ∃ M, M = min slots ord.length := ⟨_, rfl⟩
                have hmin : (min (slots : Int) (ord.length : Int)) = (M : Int) := by omega
                have hMc : (M : Int) ≤ (cf : Int) := by omega
                have hMl : M ≤ ord.length := by omega
                have HMs : Hid (ord.take M = ord.take slots) := by rw [hM]; exact List.take_eq_take_min.symm
                have hol2 : ord.length ≤ i := by omega
                clear hM hol
                clear hNr hTr hCr hPr hTPr hBr hb4r hkiR hki hor hb9r hTc hNi c4r
                have c9i := hb9i.cell
                rename World => wG
                go_wp2
                go_loopw [109, 12] (fun v109 _ wr => ∃ p : Nat, p ≤ M ∧ v109 = .int .i64 p ∧ NsAt wr B (upd (reg (ord.take p)) ns) ∧ Keep [B] wG wr ∧ Tag wr B 42) (fun v109 _ _ => M - (intOf v109).toNat)
                case atStart => exact ⟨0, by omega, rfl, hNc, Keep.refl _ _, hTBi⟩
                case round =>
                  obtain ⟨p, hpM, rfl, hNp, hkp4, hTp⟩ := hrel
                  have hb4p := hb4i.keep hkp4 (by simp; exact hb4i.tag.ne hTBi (by decide))
                  have c4p := hb4p.cell
                  have hop := own_keep hkp4 hoi (fun b hb => by simp at hb; subst hb; exact own_tag_ne hoi hTBi (by decide))
                  by_cases hlt : p < M
                  · as_aux_lemma =>
                      have hx : ord[p]! < ns.length := by
                        rw [hnn]; refine hom _ ?_
                        rw [getElem!_pos ord p (by omega)]; exact List.getElem_mem _
                      obtain ⟨g, rfl⟩ := own_some hop (by omega)
                      have cx := own_at hop p (by omega)
                      obtain ⟨_, d1, _, _, _, _⟩ := (hNp ord[p]! (by rw [upd_len]; exact hx)).1
                      have f1 := (hNp ord[p]! (by rw [upd_len]; exact hx)).2 1 (by omega)
                      have HN5 : Hid (NsAt (wr.setCell ⟨B, ord[p]! * 6 + 1, none⟩ (.bool true)) B (upd (reg (ord.take (p + 1))) ns) ∧ Keep [B] wG (wr.setCell ⟨B, ord[p]! * 6 + 1, none⟩ (.bool true)) ∧ Tag (wr.setCell ⟨B, ord[p]! * 6 + 1, none⟩ (.bool true)) B 42) :=
                        ⟨NsAt.mark (by omega) hx hNp, hkp4.setCell (p := ⟨B, ord[p]! * 6 + 1, none⟩) (.inl (by simp)) _, hTp.setCell _ _⟩
                      rw [hnn] at hx
                      generalize hxe : ord[p]! = x at *
                      generalize (upd (reg (List.take p ord)) ns)[x]!.un = un1 at *
                      clear hNp hkp4 hTp hop hxe hoi hNc hCi hPi hb9i hO HMs
                      go_wp2
                      go_roundw
                      case rel => exact ⟨p + 1, by omega, by go_num, HN5.out.1, HN5.out.2.1, HN5.out.2.2⟩
                      case measure => simp [intOf]; omega
                  · have : p = M := by omega
                    subst this
                    rw [HMs.out] at hNp
                    have hb9p := hb9i.keep hkp4 (by simp; exact hb9i.tag.ne hTBi (by decide))
                    have hTc : Tag wG bc 49 := ⟨_, hCi⟩
                    have hCp := hCi
                    rw [← hkp4.block bc hTc.lt (by simp; exact hTc.ne hTBi (by decide))] at hCp
                    have hPp := hkp4.holds hTPi.lt (by simp; exact hTPi.ne hTBi (by decide)) hPi
                    have hTPp := hTPi.keep hkp4 (by simp; exact hTPi.ne hTBi (by decide))
                    have hBp := hBi.keep hkp4 (by simp; exact hBi.tag.ne hTBi (by decide))
                    have hkip : KeepI base [B, bc, bp] w wr := hki4.trans (KeepI.of_keep (Y := [B, bc, bp]) hkp4 (fun b hb => .inl (by simp at hb; simp [hb])))
                    obtain ⟨k0, k1, k2, k3, k4, kf⟩ := chk_cells hCp
                    have kf4 := kf 4
                    have c9p := hb9p.cell
                    have hTcp : Tag wr bc 49 := ⟨_, hCp⟩
                    have HZ : Hid (Ready (wr.setCell ⟨bc, 4, none⟩ (.slice af ord.length cf)) bc B bp br base slots rounds at_ (.slice af ord.length cf) ord.length (ord.map enI) (upd (reg (ord.take slots)) ns) s' ∧ KeepI base [B, bc, bp] w (wr.setCell ⟨bc, 4, none⟩ (.slice af ord.length cf))) := by
                      have hkz : Keep [bc] wr (wr.setCell ⟨bc, 4, none⟩ (.slice af ord.length cf)) := (Keep.refl _ _).setCell (.inl (by simp)) _
                      refine ⟨⟨chk_set4 hCp _, own_setCell hop (p := ⟨bc, 4, none⟩) hTcp (by decide) _, hNp.keep hkz hTp.lt (by simp; exact hTp.ne hTcp (by decide)), hTp.setCell _ _, hkz.holds hTPp.lt (by simp; exact hTPp.ne hTcp (by decide)) hPp, hTPp.setCell _ _, hBp.keep hkz (by simp; exact hBp.tag.ne hTcp (by decide)), hsr⟩, ?_⟩
                      exact hkip.setCell (p := ⟨bc, 4, none⟩) (.inl (by simp)) _
                    have HD : Hid (SdR ns slots rounds per s (upd (reg (ord.take slots)) ns)) := by
                      refine ⟨srt, ord, ?_, hS.out, hO.out, rfl⟩
                      rw [hnn]; exact hP.out
                    clear hNp hkp4 hTp hCp hb9i hb9p hop hoi hPp hTPp hBp hkip hki4 hNc hCi hPi hTPi hBi hO hS hP HMs
                    go_wp2
                    go_end0
                    exact ⟨rfl, _, _, _, _, _, HD.out, HZ.out.1, HZ.out.2⟩

end Go.Proofs.Qxb6612885a
