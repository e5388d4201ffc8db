/-
  FnAnchorIsATermConstraint: the walk.
-/
import Derived.Test.Qxb6609488aSrc
namespace Go.Proofs.Qxb6609488a
open Go.RowKit Go.Maps

theorem MapIs.below {w w' : World} {v : Value} {ls : List (ByteArray × ByteArray)} (h : MapIs w v ls) (hb : Below w.heap.size w w') : MapIs w' v ls := by
  rcases h with h | ⟨e, M, n, e2, hM, h⟩
  · exact .inl h
  · exact .inr ⟨e, M, n, e2, Nat.lt_of_lt_of_le hM hb.size, h.below hb hM⟩

theorem TermAt.below {w w' : World} {T : Nat} {hasSel : Bool} {ls : List (ByteArray × ByteArray)} {rs : List Rq} {vm : Value} (h : TermAt w T hasSel ls rs vm) (hb : Below w.heap.size w w') : TermAt w' T hasSel ls rs vm := by
  have hc : ∀ {p : Addr} {u : Value}, w.cell? p = some u → w'.cell? p = some u := fun {p u} hp => by rw [hb.cell (World.block_lt_of_cell? w p hp)]; exact hp
  obtain ⟨h4, ⟨e, h0⟩ | ⟨e, L, v1, vr, h0, h1, h2, h3, h5⟩⟩ := h
  · exact ⟨hc h4, .inl ⟨e, hc h0⟩⟩
  · exact ⟨hc h4, .inr ⟨e, L, v1, vr, hc h0, hc h1, hc h2, h3.below hb, h5.below hb⟩⟩

set_option maxHeartbeats 10000000 in
set_option maxRecDepth 100000 in
theorem law3 (hasSel : Bool) (vl ve vm vo : Value) (ls : List (ByteArray × ByteArray)) (rs : List Rq) (ms : List ByteArray) (g : ByteArray → Option ByteArray) (sz : Int) (w : World) (hl : KA w vl ls) (hr : RA w ve rs) (hm : SH w vm ms) (hg : MapArg w vo g) (hsz : ∀ q ty, (Builtin.len_ #[25] ty #[vo]).run Try.prog (w.drewN q) = .ok (.int .i64 sz) (w.drewN q)) (hf : Fits ls) (hmf : ∀ i, i < ms.length → (ms.getD i ByteArray.empty).size ≤ maxLen) :
    Calls Try.prog 3 #[.bool hasSel, vl, ve, vm, vo] w fun e w' => e = .returned (.bool true) ∧ Below w.heap.size w w' := by
  have hbig := tooBig vl ve vm vo ls rs ms sz w hl hr hm hsz
  obtain ⟨oo, rfl⟩ := hg.shape
  obtain ⟨am, cm, rfl⟩ := hm.shape
  have HL : Hid (KA w vl ls) := hl
  have HR : Hid (RA w ve rs) := hr
  have HM : Hid (SH w (.slice am ms.length cm) ms) := hm
  have HG : Hid (MapArg w (.map oo) g) := hg
  have HF : Hid (∀ k, k ∈ ms → k.size ≤ maxLen) := fun k hk => by
    obtain ⟨i, hi, e⟩ := mem_getD_ex hk
    rw [← e]
    exact hmf i hi
  obtain ⟨_, al, cl, rfl, _⟩ := hl
  obtain ⟨_, ar, cr, rfl, _⟩ := hr
  clear hm hg hsz
  go_enter Try.func3, Try.ntmps3
  go_upto_if 32 with (go_at_call 4; refine hbig.mono ?_; rintro e w1 ⟨r, rfl, hsm, q, hw1⟩; have hb1 : Below w.heap.size w w1 := (by rw [hw1]; exact ⟨rfl, rfl, rfl, Nat.le_refl _, fun _ _ => rfl⟩); clear hw1)
  clear hbig
  cases r
  · have hS := hsm rfl
    have HS : Hid (Small ls rs ms) := hS
    have hTm := anchorTerm hasSel _ _ (.slice am ms.length cm) ls rs w1 (HL.out.below hb1) (HR.out.below hb1) hf hS.1 hS.2.1 ⟨_, _, _, rfl⟩
    clear hsm hS
    go_upto_region 4 with (go_at_call 5; refine hTm.mono ?_; rintro e w2 ⟨rfl, hTA, hb2⟩; have HT : Hid (TermAt w2 w1.heap.size hasSel ls rs (.slice am ms.length cm)) := hTA; clear hTA)
    have hb12 : Below w.heap.size w w2 := hb1.trans (hb2.mono hb1.size)
    have hTl : w1.heap.size < w2.heap.size := World.block_lt_of_cell? w2 _ HT.out.1
    clear hTm
    generalize w1.heap.size = T at *
    clear hb1 hb2
    have hzz := fun Pd W (hW : Below w2.heap.size w2 W) (hP : W.cell? ⟨Pd, 2, none⟩ = some (.map oo)) => zzAnchor hasSel T Pd (.slice am ms.length cm) (.map oo) ls rs ms g W (HT.out.below hW) hf (HM.out.below (hb12.trans (hW.mono hb12.size))) hmf hP (HG.out.below (hb12.trans (hW.mono hb12.size))) HS.out.2.2.2 HS.out.2.1
    go_upto_region 6 with (go_at_call 6; refine (hzz _ _ ((Below.refl _ _).alloc (Nat.le_refl _) _) (by go_simp)).mono ?_; rintro e w3 ⟨key, v, vals, ok, rfl, hA, hSv, hb3⟩; obtain ⟨av, cv, rfl⟩ := hSv.shape; have hb13 : Below w.heap.size w w3 := hb12.trans (((Below.refl w2.heap.size w2).alloc (Nat.le_refl _) _).trans (hb3.mono (by simp))|>.mono hb12.size); have HA : Hid (Ans hasSel ls rs ms g key vals ok) := hA; have HV : Hid (SH w3 (.slice av vals.length cv) vals) := hSv; clear hA hSv hb3)
    clear hzz HT hTl hb12
    obtain ⟨_, a1, c1, e1, hcl⟩ := HL.out.below hb13
    obtain ⟨_, a2, c2, e2, hcr⟩ := HR.out.below hb13
    obtain ⟨a3, c3, e3, _, hcm⟩ := (HM.out.below hb13).gen
    simp only [Value.slice.injEq] at e1 e2 e3
    obtain ⟨rfl, _, rfl⟩ := e1
    obtain ⟨rfl, _, rfl⟩ := e2
    obtain ⟨rfl, _, rfl⟩ := e3
    have hlook := fun k (hk : ByteArray.size k ≤ maxLen) => (HG.out.below hb13).look hk
    generalize hs0 : (hasSel && decide (0 < ls.length)) = s0
    have HS0 : Hid (source hasSel ls rs ms g = ((s0 || anyTo (hasM ms g) ms.length) || (hasSel && anyTo (isIn rs) rs.length))) := (show source hasSel ls rs ms g = ((s0 || anyTo (hasM ms g) ms.length) || (hasSel && anyTo (isIn rs) rs.length)) from by unfold source; rw [hs0])
    generalize hnl : ls.length = nl at *
    generalize hnm : ms.length = nm at *
    generalize hnr : rs.length = nr at *
    go_cut [16] (fun v16 wx => v16 = .bool s0 ∧ wx = w3)
    case first =>
      clear hcl hcr hcm hlook
      cases hasSel
      · go_wp2
        go_meet
        exact ⟨by rw [← hs0]; rfl, rfl⟩
      · by_cases h0 : 0 < nl
        · go_wp2
          go_meet
          exact ⟨by rw [← hs0, decide_eq_true h0]; rfl, rfl⟩
        · have : nl = 0 := by omega
          subst this
          go_wp2
          go_meet
          exact ⟨by rw [← hs0]; rfl, rfl⟩
    case rest =>
      obtain ⟨rfl, rfl⟩ := hcut
      rename World => w3
      go_wp2
      go_loopw [16, 17] (fun v16 v17 wr => ∃ k : Nat, k ≤ nm ∧ v17 = .int .i64 k ∧ v16 = .bool (s0 || anyTo (hasM ms g) k) ∧ wr = w3) (fun _ v17 _ => nm - (intOf v17).toNat)
      case atStart => exact ⟨0, by omega, rfl, by simp [anyTo], rfl⟩
      case round =>
        obtain ⟨k, hk, rfl, rfl, rfl⟩ := hrel
        by_cases hlt : k < nm
        · obtain ⟨b, off, rfl, hc⟩ := hcm k hlt
          have hlk := hlook _ (hmf k hlt)
          have hA : anyTo (hasM ms g) (k + 1) = (anyTo (hasM ms g) k || (g (ms.getD k ByteArray.empty)).isSome) := rfl
          have HA1 : Hid _ := hA
          clear hA hcl hcr hcm hlook hmf
          generalize ms.getD k ByteArray.empty = s at *
          cases hgs : g s with
          | none =>
            rw [hgs] at hlk HA1
            go_wp2
            go_roundw
            case rel => exact ⟨k + 1, by omega, by go_num, by rw [HA1.out]; simp, by first | trivial | rfl⟩
            case measure => simp [intOf]; omega
          | some x =>
            rw [hgs] at hlk HA1
            simp only [Option.getD_some, Option.isSome_some] at hlk
            go_wp2
            go_roundw
            case rel => exact ⟨k + 1, by omega, by go_num, by rw [HA1.out]; simp, by first | trivial | rfl⟩
            case measure => simp [intOf]; omega
        · have : k = nm := by omega
          subst this
          clear hcm hlook hmf hcl
          rename World => w3
          generalize hs1 : (s0 || anyTo (hasM ms g) k) = s1 at *
          go_upto_if 71 with fail
          go_cut [16] (fun v16 wx => v16 = .bool (source hasSel ls rs ms g) ∧ wx = w3)
          case first =>
            cases hasSel
            · go_wp2
              go_meet
              exact ⟨by rw [HS0.out]; simp, rfl⟩
            · go_wp2
              go_loopw [16, 20] (fun v16 v20 wr => ∃ j : Nat, j ≤ nr ∧ v20 = .int .i64 j ∧ v16 = .bool (s1 || anyTo (isIn rs) j) ∧ wr = w3) (fun _ v20 _ => nr - (intOf v20).toNat)
              case atStart => exact ⟨0, by omega, rfl, by simp [anyTo], rfl⟩
              case round =>
                obtain ⟨j, hj, rfl, rfl, rfl⟩ := hrel
                by_cases hlt2 : j < nr
                · obtain ⟨b, off, vv, rfl, d1, d2, d3, _⟩ := hcr j hlt2
                  have hA : anyTo (isIn rs) (j + 1) = (anyTo (isIn rs) j || decide (rs[j]!.op = opIn)) := rfl
                  have HA1 : Hid _ := hA
                  clear hA hcr
                  generalize rs[j]!.key = x at *
                  generalize rs[j]!.op = y at *
                  by_cases he : (y.toList == opIn.toList) = true
                  · have hy := (Lib.bytes_beq_iff _ _).1 he
                    have he2 : (y.toList == [73, 110]) = true := by rw [← opIn_list]; exact he
                    rw [decide_eq_true hy] at HA1
                    unfold opIn at he
                    clear hy
                    go_wp2
                    go_roundw
                    case rel => exact ⟨j + 1, by omega, by go_num, by rw [HA1.out]; simp, by first | trivial | rfl⟩
                    case measure => simp [intOf]; omega
                  · have he' : (y.toList == opIn.toList) = false := by simpa using he
                    have hy := (Lib.bytes_beq_false_iff _ _).1 he'
                    have he2 : (y.toList == [73, 110]) = false := by rw [← opIn_list]; exact he'
                    rw [decide_eq_false hy] at HA1
                    unfold opIn at he'
                    clear hy he
                    go_wp2
                    go_roundw
                    case rel => exact ⟨j + 1, by omega, by go_num, by rw [HA1.out]; simp, by first | trivial | rfl⟩
                    case measure => simp [intOf]; omega
                · have : j = nr := by omega
                  subst this
                  go_wp2
                  go_meet
                  exact ⟨by rw [HS0.out]; simp, rfl⟩
          case rest =>
            obtain ⟨rfl, rfl⟩ := hcut
            rename World => w3
            have hok := ok_source HA.out
            rw [← hok]
            have hvn := vals_nodup HA.out (fun i hi => HS.out.2.2.2 i hi)
            clear hok HS0 hs1 hs0
            cases ok
            · obtain ⟨rfl, rfl⟩ : key = ByteArray.empty ∧ vals = [] := by
                rcases HA.out with ⟨_, _, h, _⟩ | ⟨_, ⟨h, _⟩ | ⟨h, _⟩ | ⟨_, h1, h2, _⟩⟩
                · cases h
                · cases h
                · cases h
                · exact ⟨h1, h2⟩
              clear hcr hvn
              have hbf : (false != false) = false := rfl
              go_wp2
              go_ret
              exact ⟨by simp, hb13⟩
            · have hbt : (true != true) = false := rfl
              obtain ⟨hnd, hvl⟩ := hvn
              obtain ⟨a5, c5, e5, hbv, hcv⟩ := HV.out.gen
              simp only [Value.slice.injEq] at e5
              obtain ⟨rfl, _, rfl⟩ := e5
              have hnd2 : ∀ i j, i < j → j < vals.length → ((vals.getD i ByteArray.empty).toList == (vals.getD j ByteArray.empty).toList) = false := fun i j hij hj => by
                rw [Lib.bytes_beq_false_iff, List.getD_eq_getElem?_getD, List.getD_eq_getElem?_getD, List.getElem?_eq_getElem (by omega), List.getElem?_eq_getElem hj]
                simp only [Option.getD_some]
                exact fun e => by have := (List.getElem_inj hnd).1 e; omega
              generalize hnv : vals.length = nv at *
              go_wp2
              go_loopw [21] (fun v21 wr => ∃ i : Nat, i ≤ nv ∧ v21 = .int .i64 i ∧ ∃ q, wr = w3.drewN q) (fun v21 _ => nv - (intOf v21).toNat)
              case atStart => exact ⟨0, by omega, rfl, 0, rfl⟩
              case round =>
                obtain ⟨i, hi, rfl, q1, rfl⟩ := hrel
                by_cases hlt3 : i < nv
                · as_aux_lemma =>
                    go_wp2
                    go_loopw [22] (fun v22 wr => ∃ j : Nat, i < j ∧ j ≤ nv ∧ v22 = .int .i64 j ∧ ∃ q, wr = w3.drewN q) (fun v22 _ => nv - (intOf v22).toNat)
                    case atStart => exact ⟨i + 1, by omega, by omega, by go_num, q1, rfl⟩
                    case round =>
                      obtain ⟨j, hij, hj, rfl, q2, rfl⟩ := hrel
                      by_cases hlt4 : j < nv
                      · obtain ⟨b, off, rfl, x1⟩ := hcv i hlt3
                        obtain ⟨b', off', e6, x2⟩ := hcv j hlt4
                        simp at e6
                        obtain ⟨rfl, rfl⟩ := e6
                        have hne := hnd2 i j hij hlt4
                        clear hcv hnd2 hnd hcr
                        generalize vals.getD i ByteArray.empty = x at *
                        generalize vals.getD j ByteArray.empty = y at *
                        go_wp2_with fail
                        go_quiet (fail)
                        go_wp2
                        go_roundw
                        case rel => exact ⟨j + 1, by omega, by omega, by go_num, _, rfl⟩
                        case measure => simp [intOf]; omega
                      · have : j = nv := by omega
                        subst this
                        go_wp2
                        go_roundw
                        case rel => exact ⟨i + 1, by omega, by go_num, _, rfl⟩
                        case measure => simp [intOf]; omega
                · have : i = nv := by omega
                  subst this
                  have hB4 : Below w.heap.size w (w3.drewN q1) := hb13.trans ⟨rfl, rfl, rfl, Nat.le_refl _, fun _ _ => rfl⟩
                  have hV4 : SH (w3.drewN q1) (.slice av i cv) vals := HV.out.below (w' := w3.drewN q1) ⟨rfl, rfl, rfl, Nat.le_refl _, fun _ _ => rfl⟩
                  have hL4 := HL.out.below hB4
                  have hR4 := HR.out.below hB4
                  have hM4 := HM.out.below hB4
                  have hG4 := HG.out.below hB4
                  clear hcr hcv hb13 HV hnd2 hnd hbt hlt3
                  generalize w3.drewN q1 = w4 at *
                  have hlv := lastValue _ ls key w4 hL4
                  have hho := holds _ ms key w4 hM4
                  clear hL4 hM4 HL HM HG
                  rcases HA.out with ⟨rfl, hne, _, x, hx, rfl⟩ | ⟨hno, ⟨_, hmem, v, hv, rfl⟩ | ⟨_, rfl, hall, i0, hi0, hop, hkey, hvals, hbef⟩ | ⟨h, _⟩⟩
                  · as_aux_lemma =>
                      have hi1 : i = 1 := by rw [← hnv]; rfl
                      subst hi1
                      rw [hx] at hlv
                      simp only [Option.getD_some, Option.isSome_some] at hlv
                      obtain ⟨a6, c6, e6, e8, hc6⟩ := hV4.gen
                      simp only [Value.slice.injEq] at e6
                      obtain ⟨rfl, e7, rfl⟩ := e6
                      clear e7
                      obtain ⟨b, off, rfl, hcell⟩ := hc6 0 (by simp)
                      simp only [List.getD_cons_zero, Nat.add_zero] at hcell
                      have hxx : (x.toList == x.toList) = true := by simp
                      clear hbv hvl hi hnv hk hlt e8 hc6 hV4 hR4 hG4 hho HA HR HS hne hx
                      go_wp2_with (go_at_call 7; refine hlv.mono ?_; rintro e w' ⟨rfl, hw⟩; subst w')
                      go_ret
                      exact ⟨rfl, hB4⟩
                  · as_aux_lemma =>
                      have hi1 : i = 1 := by rw [← hnv]; rfl
                      subst hi1
                      rw [(Lib.containsS_iff _ _).2 hmem] at hho
                      have hlk := hG4.look (HF.out _ hmem)
                      rw [hv] at hlk
                      simp only [Option.getD_some, Option.isSome_some] at hlk
                      obtain ⟨a6, c6, e6, e8, hc6⟩ := hV4.gen
                      simp only [Value.slice.injEq] at e6
                      obtain ⟨rfl, e7, rfl⟩ := e6
                      clear e7
                      obtain ⟨b, off, rfl, hcell⟩ := hc6 0 (by simp)
                      simp only [List.getD_cons_zero, Nat.add_zero] at hcell
                      have hxx : (v.toList == v.toList) = true := by simp
                      clear hbv hvl hi hnv hk hlt e8 hc6 hV4 hR4 hG4 HA HR HS hmem hv
                      cases hasSel
                      · go_wp2_with (go_at_call 8; refine hho.mono ?_; rintro e w' ⟨rfl, hw⟩; subst w')
                        go_ret
                        exact ⟨rfl, hB4⟩
                      · have hls := hno rfl
                        have hn0 : lastOf ls key ls.length = none := by rw [hls]; rfl
                        rw [hn0] at hlv
                        simp only [Option.getD_none, Option.isSome_none] at hlv
                        clear hls hn0
                        go_wp2_with (first | (go_at_call 7; refine hlv.mono ?_; rintro e w' ⟨rfl, hw⟩; subst w') | (go_at_call 8; refine hho.mono ?_; rintro e w' ⟨rfl, hw⟩; subst w'))
                        go_ret
                        exact ⟨rfl, hB4⟩
                  · have hls := hno rfl
                    have hn0 : lastOf ls key ls.length = none := by rw [hls]; rfl
                    rw [hn0] at hlv
                    simp only [Option.getD_none, Option.isSome_none] at hlv
                    have HK : Hid (key = rs[i0]!.key) := hkey
                    have HW : Hid (vals = dist rs[i0]!.vals) := hvals
                    have HO : Hid (rs[i0]!.op = opIn) := hop
                    have HB : Hid (∀ j, j < i0 → rs[j]!.op ≠ opIn) := hbef
                    have HN : Hid (∀ k, k ∈ ms → g k = none) := hall
                    clear hls hn0 hkey hvals hop hbef hall hno hbv
                    go_upto_if 124 with fail
                    go_cut [23, 24, 25, 26] (fun v23 v24 v25 v26 wx => wx = w4)
                    case first =>
                      clear hV4 hR4 HA HR HS
                      by_cases h1 : i = 1
                      · subst h1
                        cases hcs : Lib.containsS ms key
                        · rw [hcs] at hho
                          go_wp2_with (first | (go_at_call 7; refine hlv.mono ?_; rintro e w' ⟨rfl, hw⟩; subst w') | (go_at_call 8; refine hho.mono ?_; rintro e w' ⟨rfl, hw⟩; subst w'))
                          go_meet
                          rfl
                        · have hmem := (Lib.containsS_iff _ _).1 hcs
                          rw [hcs] at hho
                          have hlk := hG4.look (HF.out _ hmem)
                          rw [HN.out _ hmem] at hlk
                          simp only [Option.getD_none, Option.isSome_none] at hlk
                          go_wp2_with (first | (go_at_call 7; refine hlv.mono ?_; rintro e w' ⟨rfl, hw⟩; subst w') | (go_at_call 8; refine hho.mono ?_; rintro e w' ⟨rfl, hw⟩; subst w'))
                          go_meet
                          rfl
                      · go_wp2
                        go_meet
                        rfl
                    case rest =>
                      subst hcut
                      rename World => w4
                      clear hlv hho hG4
                      obtain ⟨e8, a2, c2, e2, hcr⟩ := hR4
                      simp only [Value.slice.injEq] at e2
                      obtain ⟨rfl, e7, rfl⟩ := e2
                      clear e7 e8
                      rw [hnr] at hi0 hcr
                      go_wp2
                      go_loopw [27] (fun v27 wr => ∃ j : Nat, j ≤ i0 ∧ v27 = .int .i64 j ∧ wr = w4) (fun v27 _ => nr - (intOf v27).toNat)
                      case atStart => exact ⟨0, by omega, rfl, rfl⟩
                      case round =>
                        obtain ⟨j, hj, rfl, rfl⟩ := hrel
                        rename World => w4
                        have hjn : j < nr := by omega
                        obtain ⟨b, off, vv, rfl, d1, d2, d3, hSv⟩ := hcr j hjn
                        by_cases he : j < i0
                        · have hy := HB.out j he
                          clear hcr hSv
                          generalize rs[j]!.key = x at *
                          generalize rs[j]!.op = y at *
                          have he' : (y.toList == opIn.toList) = false := (Lib.bytes_beq_false_iff _ _).2 hy
                          have he2 : (y.toList == [73, 110]) = false := by rw [← opIn_list]; exact he'
                          unfold opIn at he'
                          clear hy
                          go_wp2
                          go_roundw
                          case rel => exact ⟨j + 1, by omega, by go_num, by first | trivial | rfl⟩
                          case measure => simp [intOf]; omega
                        · have : j = i0 := by omega
                          subst this
                          have hss := sameSet _ vv vals rs[j]!.vals w4 hV4 hSv (fun x hx => by rw [HW.out] at hx; exact (dist_mem _ x).1 hx) (fun x hx => by rw [HW.out]; exact (dist_mem _ x).2 hx)
                          obtain ⟨a7, c7, rfl⟩ := hSv.shape
                          rw [← HK.out] at d1
                          have he' : (rs[j]!.op.toList == opIn.toList) = true := (Lib.bytes_beq_iff _ _).2 HO.out
                          have he2 : (rs[j]!.op.toList == [73, 110]) = true := by rw [← opIn_list]; exact he'
                          have hkk : (key.toList == key.toList) = true := by simp
                          unfold opIn at he'
                          clear hcr hSv HA HR HO HB HK HW HN
                          generalize rs[j]!.op = y at *
                          clear hV4 he hj hi0 hnv hvl hi hk hlt
                          generalize rs[j]!.vals.length = n9 at *
                          go_wp2_with (go_at_call 9; refine hss.mono ?_; rintro e w' ⟨rfl, hw⟩; subst w')
                          go_ret
                          exact ⟨rfl, hB4⟩
                  · cases h
  · clear hsm
    go_wp2
    go_ret
    exact ⟨rfl, hb1⟩

end Go.Proofs.Qxb6609488a
