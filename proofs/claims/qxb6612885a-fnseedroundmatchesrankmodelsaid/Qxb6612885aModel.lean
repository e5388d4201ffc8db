/-
  The walk of downloadModel.
-/
import Derived.Test.Qxb6612885aKeepI
import Derived.Deep.DeepCutAuto
import Derived.Deep.CutRange
import Derived.Deep.Cut
namespace Go.Proofs.Qxb6612885a
open Go.Shelf Go.RowKit Go.Lib Go.Sort

/-- a row of n bools, by a function -/
def BF (w : World) (b n : Nat) (f : Nat → Bool) : Prop := ∀ i, i < n → w.cell? ⟨b, i, none⟩ = some (.bool (f i)) ∧ w.frozen? ⟨b, i, none⟩ = false

theorem BF.keep {X : List Nat} {w w' : World} {b n : Nat} {f : Nat → Bool} (h : BF w b n f) (hk : Keep X w w') (hb : b < w.heap.size) (hx : b ∉ X) : BF w' b n f := fun i hi => by
  rw [hk.cell (p := ⟨b, i, none⟩) hb hx, hk.frozen (p := ⟨b, i, none⟩) hb hx]; exact h i hi
theorem BF.congr {w : World} {b n : Nat} {f g : Nat → Bool} (h : BF w b n f) (hg : ∀ i, i < n → g i = f i) : BF w b n g := fun i hi => by
  rw [hg i hi]; exact h i hi
theorem BF.set {w : World} {b n : Nat} {f g : Nat → Bool} (h : BF w b n f) (i : Nat) (u : Bool) (hi : g i = u) (hg : ∀ j, j < n → j ≠ i → g j = f j) : BF (w.setCell ⟨b, i, none⟩ (.bool u)) b n g := fun j hj => by
  refine ⟨?_, by rw [World.frozen?_setCell]; exact (h j hj).2⟩
  by_cases e : j = i
  · subst e; rw [hi]; exact World.cell?_setCell_same w _ _ (h j hj).1
  · rw [hg j hj e, World.cell?_setCell_other _ _ _ _ (by simp only [ne_eq, Addr.mk.injEq]; exact fun h => e h.2.1.symm)]; exact (h j hj).1
theorem BF.bs {w : World} {b n : Nat} {f : Nat → Bool} (h : BF w b n f) : BsAt w b ((List.range n).map f) := fun i hi => by
  simp at hi
  rw [getElem!_pos _ i (by simpa using hi)]
  simp
  exact h i hi
theorem BF.made {w : World} {base g n : Nat} (h : w.ownsRow base 4 1 (.slice (some ⟨g, 0, none⟩) n n) n (madeCells (Value.bool false).cells (n * 1)).toList) : BF w g n (fun _ => false) := fun i hi => by
  refine ⟨?_, h.frozenAt i⟩
  rw [h.cellAt i (by omega)]
  show (madeCells #[.bool false] (n * 1)).toList[i]? = _
  rw [toList_madeCells_one]
  simp [hi]

/-! ### the model, plain -/
def aheadM (ns : List N) (now : Nat) (rt : Bool) (kp : Int) (i j : Nat) : Bool := elig ns now rt kp j && (Flt.gt ns[j]!.ra ns[i]!.ra || (decide (j < i) && Flt.eq ns[j]!.ra ns[i]!.ra))
def unM (ns : List N) (slots now : Nat) (rt : Bool) (kp : Int) (i : Nat) : Bool := elig ns now rt kp i && decide (((flt (aheadM ns now rt kp i) ns.length).length : Int) < (slots : Int) - 1)
def candM (ns : List N) (slots now : Nat) (rt : Bool) (kp : Int) (i : Nat) : Bool := ns[i]!.it && !unM ns slots now rt kp i && (i : Int) != kp
def MOpt (ns : List N) (slots now : Nat) (rt : Bool) (kp : Int) (s : Nat × Nat) (ch : Int) : Prop :=
  (rt = false ∧ ch = kp) ∨
  (rt = true ∧ flt (candM ns slots now rt kp) ns.length ≠ [] ∧ ∃ r, DrawR (flt (candM ns slots now rt kp) ns.length).length s r ∧ ch = ((flt (candM ns slots now rt kp) ns.length)[r]! : Nat)) ∨
  (rt = true ∧ flt (candM ns slots now rt kp) ns.length = [] ∧ ch = if decide (0 ≤ kp) && unM ns slots now rt kp kp.toNat then -1 else kp)
/-- who the draw names, once the first k have been looked at -/
def nth (l : List Nat) (d : Nat) : Int := if d < l.length then ((l[d]! : Nat) : Int) else -1

theorem nth_hit {p : Nat → Bool} {k d : Nat} (h : p k = true) : nth (flt p (k + 1)) d = if (flt p k).length = d then (k : Int) else nth (flt p k) d := by
  rw [flt_hit h]
  unfold nth
  simp only [List.length_append, List.length_singleton]
  by_cases e : (flt p k).length = d
  · subst e
    rw [if_pos (by omega), if_pos rfl, getElem!_pos (flt p k ++ [k]) (flt p k).length (by simp)]
    simp
  · rw [if_neg e]
    by_cases e2 : d < (flt p k).length
    · rw [if_pos (by omega), if_pos e2, getElem!_pos (flt p k ++ [k]) d (by simp; omega), getElem!_pos (flt p k) d e2, List.getElem_append_left e2]
    · rw [if_neg (by omega), if_neg e2]

theorem info4_parts : ∃ i, Try.prog.info? 4 = some i ∧ i.zero = some (.bool false) ∧ i.size = 1 ∧ i.bytes = 1 := info_parts info4

def eTo (f : Nat → Bool) (k i : Nat) : Bool := decide (i < k) && f i
theorem eTo_zero (f : Nat → Bool) (i : Nat) : eTo f 0 i = false := by simp [eTo]
theorem eTo_succ {w : World} {b n k : Nat} {f : Nat → Bool} (h : BF w b n (eTo f k)) : BF (w.setCell ⟨b, k, none⟩ (.bool (f k))) b n (eTo f (k + 1)) :=
  h.set k (f k) (by simp [eTo]) (fun j _ hne => by
    unfold eTo
    have : decide (j < k + 1) = decide (j < k) := by simp; omega
    rw [this])
theorem eTo_skip {w : World} {b n k : Nat} {f : Nat → Bool} (h : BF w b n (eTo f k)) (hf : f k = false) : BF w b n (eTo f (k + 1)) :=
  h.congr (fun j _ => by
    unfold eTo
    by_cases e : j = k
    · subst e; rw [hf]; simp
    · have : decide (j < k + 1) = decide (j < k) := by simp; omega
      rw [this])
theorem eTo_end {w : World} {b n : Nat} {f : Nat → Bool} (h : BF w b n (eTo f n)) : BF w b n f := h.congr (fun j hj => by simp [eTo, hj])

set_option maxHeartbeats 40000000 in
set_option maxRecDepth 100000 in
theorem model_walk (v : Value) (ns : List N) (slots : Nat) (hsl : 1 ≤ slots) (hsl2 : slots < 9223372036854775808) (s : Nat × Nat) (hs : s.2 < 18446744073709551616) (at_ now : Nat) (w : World) (hv : NArg w v ns) (hn : ns.length ≤ 4096) :
    Calls Try.prog 13 #[v, .int .i64 (slots : Nat), .int .u64 s.1, .int .u64 s.2, .float .f64 at_, .float .f64 now] w fun e w' => ∃ bu bo rt ch, e = .returned (.tuple #[.slice (some ⟨bu, 0, none⟩) ns.length ns.length, .slice (some ⟨bo, 0, none⟩) ns.length ns.length]) ∧
      rt = rot now at_ (decide (0 ≤ keptTo ns ns.length)) ∧ MOpt ns slots now rt (keptTo ns ns.length) s ch ∧ BF w' bu ns.length (fun i => unM ns slots now rt (keptTo ns ns.length) i || (i : Int) == ch) ∧ BF w' bo ns.length (fun i => (i : Int) == ch) ∧ Tag w' bu 4 ∧ Tag w' bo 4 ∧ Keep [] w w' := by
  obtain ⟨a, c, rfl, hns⟩ := hv.gen
  obtain ⟨n, hnn⟩ : ∃ n, ns.length = n := ⟨_, rfl⟩
  rw [hnn] at hn hns ⊢
  clear hv
  go_enter Try.func13, Try.ntmps13
  go_wp2
  go_loopw [15, 16] (fun v15 v16 wr => ∃ k : Nat, k ≤ n ∧ v16 = .int .i64 k ∧ v15 = .int .i64 (keptTo ns k) ∧ wr = w) (fun _ v16 _ => n - (intOf v16).toNat)
  case atStart => exact ⟨0, by omega, rfl, rfl, rfl⟩
  case round =>
    obtain ⟨k, hk, rfl, rfl, rfl⟩ := hrel
    by_cases hlt : k < n
    · as_aux_lemma =>
        obtain ⟨b, off, rfl, hb, _, d1, d2, _, _, _⟩ := hns k hlt
        have hkt : keptTo ns (k + 1) = if ns[k]!.op && ns[k]!.un then (k : Int) else keptTo ns k := rfl
        generalize hx : ns[k]! = x at *
        obtain ⟨it, un, op, ua, ra, ld⟩ := x
        simp only at d1 d2 hkt
        have HKT : Hid _ := hkt
        clear hns hx hkt
        cases op
        · go_wp2
          go_roundw
          case rel => exact ⟨k + 1, by omega, by go_num, by rw [HKT.out]; rfl, by first | trivial | rfl⟩
          case measure => simp [intOf]; omega
        · cases un
          · go_wp2
            go_roundw
            case rel => exact ⟨k + 1, by omega, by go_num, by rw [HKT.out]; rfl, by first | trivial | rfl⟩
            case measure => simp [intOf]; omega
          · go_wp2
            go_roundw
            case rel => exact ⟨k + 1, by omega, by go_num, by rw [HKT.out]; rfl, by first | trivial | rfl⟩
            case measure => simp [intOf]; omega
    · have : k = n := by omega
      subst this
      clear hk hlt
      rename World => w0
      have hkr := keptTo_range ns k
      generalize hkp : keptTo ns k = kp at *
      go_upto_region 8 with fail
      go_cut [17] (fun v17 wx => v17 = .bool (rot now at_ (decide (0 ≤ kp))) ∧ ∃ q, wx = w0.drewN q)
      case first =>
        obtain ⟨r, q, h1, _, h2⟩ := sub_run 24 now at_ w0
        have h3 : (FloatKind.f64.format.order r 4629137466701973599 == some Ordering.gt || FloatKind.f64.format.order r 4629137466701973599 == some Ordering.eq) = rot now at_ true := h2 _
        by_cases hk0 : 0 ≤ kp
        · go_wp2
          go_meet
          exact ⟨by have : ¬ kp < 0 := (by omega); simp [hk0, this], q, rfl⟩
        · go_wp2
          go_meet
          exact ⟨by simp [hk0, rot], 0, rfl⟩
      case rest =>
        obtain ⟨rfl, q0, hw0⟩ := hcut
        have hkA : Keep [] w0 wc := by rw [hw0]; exact (Keep.refl [] w0).drewN q0
        clear hw0
        rename World => wA
        generalize hrt : rot now at_ (decide (0 ≤ kp)) = rt at *
        obtain ⟨i0, hi, hz0, hz1, hz2⟩ := info4_parts
        have hszA := hkA.size
        go_wp2_with (at_make; refine wpList_make_full _ rfl _ _ 34 rfl w0.heap.size 4 i0 _ 1 Try.underlying34 hi hz0 hz1 _ _ _ _ k rfl rfl rfl rfl (by rw [hz2]; omega) (by unfold maxLen; omega) hszA ?_; intro w1 hown hgr)
        have hB1 := BF.made hown
        have hk1 : Keep [] w0 w1 := hkA.trans ⟨hgr.os, hgr.tape, hgr.output, hgr.size, fun k hk _ => hgr.block k hk (by simp)⟩
        have hlt1 : wA.heap.size < w1.heap.size := (tag_own hown).lt
        generalize hbee : wA.heap.size = be at *
        clear hown hgr
        go_loopw [19] (fun v19 w2 => ∃ j : Nat, j ≤ k ∧ v19 = .int .i64 j ∧ BF w2 be k (eTo (elig ns now rt kp) j) ∧ be < w2.heap.size ∧ Keep [] w0 w2) (fun v19 _ => k - (intOf v19).toNat)
        case atStart => exact ⟨0, by omega, rfl, hB1.congr (fun i _ => eTo_zero _ i), hlt1, hk1⟩
        case round =>
          obtain ⟨j, hj, rfl, hBj, hbj, hkj⟩ := hrel
          by_cases hlt : j < k
          · as_aux_lemma =>
              obtain ⟨b, off, rfl, hb, d0, _, _, _, _, d5⟩ := hns j hlt
              rw [← hkj.cell (p := ⟨b, _, none⟩) hb (by simp)] at d0 d5
              obtain ⟨cj, fj⟩ := hBj j hlt
              have HF : Hid (∀ w5, Keep [] wr w5 → BF (w5.setCell ⟨be, j, none⟩ (.bool (elig ns now rt kp j))) be k (eTo (elig ns now rt kp) (j + 1)) ∧ be < (w5.setCell ⟨be, j, none⟩ (.bool (elig ns now rt kp j))).heap.size ∧ Keep [] w0 (w5.setCell ⟨be, j, none⟩ (.bool (elig ns now rt kp j)))) := fun w5 hk5 => by
                have h5 : Keep [] w0 (w5.setCell ⟨be, j, none⟩ (.bool (elig ns now rt kp j))) := (hkj.trans hk5).setCell (p := ⟨be, j, none⟩) (.inr hszA) _
                refine ⟨eTo_succ (hBj.keep hk5 hbj (by simp)), ?_, h5⟩
                exact Nat.lt_of_lt_of_le hbj (Nat.le_trans hk5.size (((Keep.refl [be] w5).setCell (p := ⟨be, j, none⟩) (.inl (by simp)) _).size))
              have hE0 : elig ns now rt kp j = (ns[j]!.it && !snub ns[j]!.ld now && (rt || (j : Int) != kp)) := rfl
              have HE : Hid _ := hE0
              have hsn := fun W => snubbed_walk ns[j]!.ld now W
              have HK : Hid (∀ w5 q, w5 = wr.drewN q → Keep [] wr w5 ∧ w5.cell? ⟨be, j, none⟩ = wr.cell? ⟨be, j, none⟩ ∧ w5.frozen? ⟨be, j, none⟩ = wr.frozen? ⟨be, j, none⟩) := fun w5 q h => by
                have hk : Keep [] wr w5 := by rw [h]; exact (Keep.refl [] wr).drewN q
                exact ⟨hk, hk.cell hbj (by simp), hk.frozen hbj (by simp)⟩
              generalize hx : ns[j]! = x at *
              obtain ⟨it, un, op, ua, ra, ld⟩ := x
              simp only at d0 d5 hsn
              have HR : Hid (Keep [] wr wr) := Keep.refl _ _
              clear hE0 hBj hkj hns hkA hk1 hB1
              cases it
              · go_wp2
                go_roundw
                case rel =>
                  have h := HF.out wr HR.out
                  rw [HE.out] at h
                  exact ⟨j + 1, by omega, by go_num, h.1, h.2.1, h.2.2⟩
                case measure => simp [intOf]; omega
              · cases hsb : snub ld now
                · rw [hsb] at hsn
                  cases rt
                  · cases hjb : ((j : Int) != kp)
                    · go_wp2_with (go_at_call 24; refine (hsn _).mono ?_; rintro e w5 ⟨rfl, q5, hw5⟩; obtain ⟨hk5, c5, f5⟩ := HK.out w5 q5 hw5; rw [cj] at c5; rw [fj] at f5; clear hw5)
                      go_roundw
                      case rel =>
                        have h := HF.out w5 hk5
                        rw [HE.out] at h
                        simp only [hsb, hjb] at h
                        exact ⟨j + 1, by omega, by go_num, h.1, h.2.1, h.2.2⟩
                      case measure => simp [intOf]; omega
                    · go_wp2_with (go_at_call 24; refine (hsn _).mono ?_; rintro e w5 ⟨rfl, q5, hw5⟩; obtain ⟨hk5, c5, f5⟩ := HK.out w5 q5 hw5; rw [cj] at c5; rw [fj] at f5; clear hw5)
                      go_roundw
                      case rel =>
                        have h := HF.out w5 hk5
                        rw [HE.out] at h
                        simp only [hsb, hjb] at h
                        exact ⟨j + 1, by omega, by go_num, h.1, h.2.1, h.2.2⟩
                      case measure => simp [intOf]; omega
                  · go_wp2_with (go_at_call 24; refine (hsn _).mono ?_; rintro e w5 ⟨rfl, q5, hw5⟩; obtain ⟨hk5, c5, f5⟩ := HK.out w5 q5 hw5; rw [cj] at c5; rw [fj] at f5; clear hw5)
                    go_roundw
                    case rel =>
                      have h := HF.out w5 hk5
                      rw [HE.out] at h
                      simp only [hsb] at h
                      exact ⟨j + 1, by omega, by go_num, h.1, h.2.1, h.2.2⟩
                    case measure => simp [intOf]; omega
                · rw [hsb] at hsn
                  go_wp2_with (go_at_call 24; refine (hsn _).mono ?_; rintro e w5 ⟨rfl, q5, hw5⟩; obtain ⟨hk5, c5, f5⟩ := HK.out w5 q5 hw5; rw [cj] at c5; rw [fj] at f5; clear hw5)
                  go_roundw
                  case rel =>
                    have h := HF.out w5 hk5
                    rw [HE.out] at h
                    simp only [hsb] at h
                    exact ⟨j + 1, by omega, by go_num, h.1, h.2.1, h.2.2⟩
                  case measure => simp [intOf]; omega
          · have : j = k := by omega
            subst this
            clear hj hlt
            rename World => wB
            have hBe := eTo_end hBj
            have hszB := hkj.size
            go_wp2_with (at_make; refine wpList_make_full _ rfl _ _ 34 rfl w0.heap.size 4 i0 _ 1 Try.underlying34 hi hz0 hz1 _ _ _ _ j rfl rfl rfl rfl (by rw [hz2]; omega) (by unfold maxLen; omega) hszB ?_; intro w3 hown hgr)
            have hk3 : Keep [] wB w3 := ⟨hgr.os, hgr.tape, hgr.output, hgr.size, fun k hk _ => hgr.block k hk (by simp)⟩
            have hBu := BF.made hown
            have hBe3 := hBe.keep hk3 hbj (by simp)
            have hlt3 : Tag w3 wB.heap.size 4 := tag_own hown
            have hk03 := hkj.trans hk3
            generalize hbue : wB.heap.size = bu at *
            clear hown hgr hBe hBj hk3 hB1 hk1 hkA hkj
            go_loopw [21] (fun v21 w4 => ∃ i : Nat, i ≤ j ∧ v21 = .int .i64 i ∧ BF w4 be j (elig ns now rt kp) ∧ BF w4 bu j (eTo (unM ns slots now rt kp) i) ∧ Tag w4 bu 4 ∧ Keep [] w0 w4) (fun v21 _ => j - (intOf v21).toNat)
            case atStart => exact ⟨0, by omega, rfl, hBe3, hBu.congr (fun i _ => eTo_zero _ i), hlt3, hk03⟩
            case round =>
              obtain ⟨i, hij, rfl, hEi, hUi, hbi, hki⟩ := hrel
              by_cases hlt : i < j
              · as_aux_lemma =>
                  have ci := (hEi i hlt).1
                  cases he : elig ns now rt kp i
                  · rw [he] at ci
                    have HU : Hid _ := eTo_skip hUi (by unfold unM; rw [he]; rfl)
                    go_wp2
                    go_roundw
                    case rel => exact ⟨i + 1, by omega, by go_num, hEi, HU.out, hbi, hki⟩
                    case measure => simp [intOf]; omega
                  · rw [he] at ci
                    rename World => wC
                    clear hBe3 hBu hlt3 hk03
                    go_wp2
                    go_loopw [22, 23] (fun v22 v23 w5 => ∃ x : Nat, x ≤ j ∧ v23 = .int .i64 x ∧ v22 = .int .i64 ((flt (aheadM ns now rt kp i) x).length : Nat) ∧ ∃ q, w5 = wC.drewN q) (fun _ v23 _ => j - (intOf v23).toNat)
                    case atStart => exact ⟨0, by omega, rfl, rfl, 0, rfl⟩
                    case round =>
                      obtain ⟨x, hxj, rfl, rfl, q, rfl⟩ := hrel
                      have hfl := flt_len (aheadM ns now rt kp i) x
                      by_cases hlx : x < j
                      · obtain ⟨b, off, rfl, hb, _, _, _, _, ri4, _⟩ := hns i hlt
                        obtain ⟨b2, off2, h2, _, _, _, _, _, rx4, _⟩ := hns x hlx
                        simp at h2
                        obtain ⟨rfl, rfl⟩ := h2
                        rw [← hki.cell (p := ⟨b, _, none⟩) hb (by simp)] at ri4 rx4
                        have cx := (hEi x hlx).1
                        have hA0 : aheadM ns now rt kp i x = (elig ns now rt kp x && (Flt.gt ns[x]!.ra ns[i]!.ra || (decide (x < i) && Flt.eq ns[x]!.ra ns[i]!.ra))) := rfl
                        have HA : Hid _ := hA0
                        have HI : Hid _ := he
                        clear hA0 hEi hUi hns he
                        generalize elig ns now rt kp x = ex at *
                        generalize ns[x]!.ra = rx at *
                        generalize ns[i]!.ra = ri at *
                        have hg : (FloatKind.f64.format.order rx ri == some Ordering.gt) = Flt.gt rx ri := rfl
                        have hq : (FloatKind.f64.format.order rx ri == some Ordering.eq) = Flt.eq rx ri := rfl
                        generalize Flt.gt rx ri = g at *
                        generalize Flt.eq rx ri = eqv at *
                        go_upto_region 23 with fail
                        go_cut [143] (fun v143 w6 => v143 = .bool (ex && (g || (decide (x < i) && eqv))) ∧ ∃ q, w6 = wC.drewN q)
                        case first =>
                          clear HA HI
                          cases ex
                          · go_quiet (fail)
                            go_wp2
                            go_meet
                            exact ⟨rfl, _, World.drewN_drewN _ _ _⟩
                          · cases g
                            · by_cases hxi : x < i
                              · cases eqv
                                · go_quiet (fail)
                                  go_wp2
                                  go_meet
                                  exact ⟨by simp, _, World.drewN_drewN _ _ _⟩
                                · go_quiet (fail)
                                  go_wp2
                                  go_meet
                                  exact ⟨by simp [hxi], _, World.drewN_drewN _ _ _⟩
                              · have hxd : decide ((x : Int) < (i : Int)) = false := by simp; omega
                                go_quiet (fail)
                                go_wp2
                                go_meet
                                exact ⟨by simp [hxi], _, World.drewN_drewN _ _ _⟩
                            · go_quiet (fail)
                              go_wp2
                              go_meet
                              exact ⟨rfl, _, World.drewN_drewN _ _ _⟩
                        case rest =>
                          obtain ⟨rfl, q6, rfl⟩ := hcut
                          rw [← HA.out]
                          cases hea : aheadM ns now rt kp i x
                          · have HM : Hid _ := flt_miss hea
                            go_wp2
                            go_roundw
                            case rel => exact ⟨x + 1, by omega, by go_num, by rw [HM.out], _, rfl⟩
                            case measure => simp [intOf]; omega
                          · have HM : Hid _ := flt_hit hea
                            go_wp2
                            go_roundw
                            case rel => exact ⟨x + 1, by omega, by go_num, by rw [HM.out]; simp, _, rfl⟩
                            case measure => simp [intOf]; omega
                      · have : x = j := by omega
                        subst this
                        obtain ⟨ui, fi⟩ := hUi i hlt
                        have hU : unM ns slots now rt kp i = decide (((flt (aheadM ns now rt kp i) x).length : Int) < (slots : Int) - 1) := by unfold unM; rw [he, hnn]; simp
                        have hkq : Keep [] wC (wC.drewN q) := (Keep.refl [] wC).drewN q
                        have HF : Hid (BF ((wC.drewN q).setCell ⟨bu, i, none⟩ (.bool (unM ns slots now rt kp i))) be x (elig ns now rt kp) ∧ BF ((wC.drewN q).setCell ⟨bu, i, none⟩ (.bool (unM ns slots now rt kp i))) bu x (eTo (unM ns slots now rt kp) (i + 1)) ∧ Tag ((wC.drewN q).setCell ⟨bu, i, none⟩ (.bool (unM ns slots now rt kp i))) bu 4 ∧ Keep [] w0 ((wC.drewN q).setCell ⟨bu, i, none⟩ (.bool (unM ns slots now rt kp i)))) := by
                          have hks : Keep [bu] wC ((wC.drewN q).setCell ⟨bu, i, none⟩ (.bool (unM ns slots now rt kp i))) := ((Keep.refl [bu] wC).drewN q).setCell (p := ⟨bu, i, none⟩) (.inl (by simp)) _
                          exact ⟨hEi.keep hks (Nat.lt_trans hbj hbi.lt) (by simp; omega), eTo_succ (hUi.keep hkq hbi.lt (by simp)), (hbi.keep hkq (by simp)).setCell _ _, (hki.trans hkq).setCell (p := ⟨bu, i, none⟩) (.inr hszB) _⟩
                        rw [hU] at HF
                        clear hU hkq hEi hUi hns hki he
                        generalize (flt (aheadM ns now rt kp i) x).length = cnt at *
                        by_cases hcl : (cnt : Int) < (slots : Int) - 1
                        · have hcd : decide ((cnt : Int) < (slots : Int) - 1) = true := decide_eq_true hcl
                          rw [hcd] at HF
                          go_wp2
                          go_roundw
                          case rel => exact ⟨i + 1, by omega, by go_num, HF.out.1, HF.out.2.1, HF.out.2.2.1, HF.out.2.2.2⟩
                          case measure => simp [intOf]; omega
                        · have hcd : decide ((cnt : Int) < (slots : Int) - 1) = false := decide_eq_false hcl
                          rw [hcd] at HF
                          go_wp2
                          go_roundw
                          case rel => exact ⟨i + 1, by omega, by go_num, HF.out.1, HF.out.2.1, HF.out.2.2.1, HF.out.2.2.2⟩
                          case measure => simp [intOf]; omega
              · have : i = j := by omega
                subst this
                clear hij hlt
                rename World => wD
                have hU := eTo_end hUi
                clear hUi hEi hBe3 hBu hlt3 hk03
                go_upto_if 154 with fail
                go_cut [24] (fun v24 wx => ∃ ch : Int, v24 = .int .i64 ch ∧ Hid (MOpt ns slots now rt kp s ch) ∧ -1 ≤ ch ∧ ch < i ∧ BF wx bu i (unM ns slots now rt kp) ∧ Tag wx bu 4 ∧ Keep [] w0 wx)
                case first =>
                  cases rt
                  · go_wp2
                    go_meet
                    exact ⟨kp, rfl, (.inl ⟨rfl, rfl⟩ : MOpt ns slots now false kp s kp), hkr.1, hkr.2, hU, hbi, hki⟩
                  · go_wp2
                    go_loopw [25, 26] (fun v25 v26 w5 => ∃ x : Nat, x ≤ i ∧ v26 = .int .i64 x ∧ v25 = .int .i64 ((flt (candM ns slots now true kp) x).length : Nat) ∧ w5 = wD) (fun _ v26 _ => i - (intOf v26).toNat)
                    case atStart => exact ⟨0, by omega, rfl, rfl, rfl⟩
                    case round =>
                      obtain ⟨x, hxj, rfl, rfl, rfl⟩ := hrel
                      have hfl := flt_len (candM ns slots now true kp) x
                      by_cases hlx : x < i
                      · as_aux_lemma =>
                          obtain ⟨b, off, rfl, hb, x0, _, _, _, _, _⟩ := hns x hlx
                          rw [← hki.cell (p := ⟨b, _, none⟩) hb (by simp)] at x0
                          have ux := (hU x hlx).1
                          have hC0 : candM ns slots now true kp x = (ns[x]!.it && !unM ns slots now true kp x && (x : Int) != kp) := rfl
                          have HC : Hid _ := hC0
                          clear hC0 hU hns
                          generalize ns[x]!.it = it at *
                          generalize unM ns slots now true kp x = un at *
                          go_upto_region 32 with fail
                          go_cut [176] (fun v176 w6 => v176 = .bool (it && !un && (x : Int) != kp) ∧ w6 = wr)
                          case first =>
                            clear HC
                            cases it
                            · go_wp2
                              go_meet
                              exact ⟨rfl, rfl⟩
                            · cases un
                              · cases hjb : ((x : Int) != kp)
                                · go_wp2
                                  go_meet
                                  exact ⟨by simp [hjb], rfl⟩
                                · go_wp2
                                  go_meet
                                  exact ⟨by simp [hjb], rfl⟩
                              · go_wp2
                                go_meet
                                exact ⟨rfl, rfl⟩
                          case rest =>
                            obtain ⟨rfl, rfl⟩ := hcut
                            rw [← HC.out]
                            cases hea : candM ns slots now true kp x
                            · have HM : Hid _ := flt_miss hea
                              go_wp2
                              go_roundw
                              case rel => exact ⟨x + 1, by omega, by go_num, by rw [HM.out], by first | trivial | rfl⟩
                              case measure => simp [intOf]; omega
                            · have HM : Hid _ := flt_hit hea
                              go_wp2
                              go_roundw
                              case rel => exact ⟨x + 1, by omega, by go_num, by rw [HM.out]; simp, by first | trivial | rfl⟩
                              case measure => simp [intOf]; omega
                      · have : x = i := by omega
                        subst this
                        clear hxj hlx
                        rename World => wE
                        have hM2 : Hid (∀ d, flt (candM ns slots now true kp) x ≠ [] → DrawR (flt (candM ns slots now true kp) x).length s d → MOpt ns slots now true kp s ((flt (candM ns slots now true kp) x)[d]! : Nat)) := fun d h1 h2 => .inr (.inl (by rw [hnn]; exact ⟨rfl, h1, d, h2, rfl⟩))
                        have hM3 : Hid (∀ ch : Int, flt (candM ns slots now true kp) x = [] → ch = (if decide (0 ≤ kp) && unM ns slots now true kp kp.toNat then -1 else kp) → MOpt ns slots now true kp s ch) := fun ch h1 h2 => .inr (.inr (by rw [hnn]; exact ⟨rfl, h1, h2⟩))
                        have hcm : Hid (∀ y, y ∈ flt (candM ns slots now true kp) x → y < x) := fun y hy => (flt_mem.1 hy).1
                        by_cases hL : 0 < (flt (candM ns slots now true kp) x).length
                        · as_aux_lemma =>
                            have hdw := draw_walk _ hL (by omega) s hs wE
                            go_wp2_with (go_at_call 25; refine hdw.mono ?_; rintro e w7 ⟨d, rfl, hd, hbl⟩; have hk7 : Keep [] wE w7 := Keep.of_below hbl []; have hdl := DrawR.lt hL hd; have HD : Hid _ := hd; clear hbl hd)
                            have hki7 := hki.trans hk7
                            have hU7 := hU.keep hk7 hbi.lt (by simp)
                            have hb7 : Tag w7 bu 4 := hbi.keep hk7 (by simp)
                            clear hdw
                            go_loopw [24, 28, 29] (fun v24 v28 v29 w8 => ∃ y : Nat, y ≤ x ∧ v29 = .int .i64 y ∧ v28 = .int .i64 ((flt (candM ns slots now true kp) y).length : Nat) ∧ v24 = .int .i64 (nth (flt (candM ns slots now true kp) y) d) ∧ w8 = w7) (fun _ _ v29 _ => x - (intOf v29).toNat)
                            case atStart => exact ⟨0, by omega, rfl, rfl, rfl, rfl⟩
                            case round =>
                              obtain ⟨y, hyx, rfl, rfl, rfl, rfl⟩ := hrel
                              have hfy := flt_len (candM ns slots now true kp) y
                              by_cases hly : y < x
                              · obtain ⟨b, off, rfl, hb, x0, _, _, _, _, _⟩ := hns y hly
                                rw [← hki7.cell (p := ⟨b, _, none⟩) hb (by simp)] at x0
                                have ux := (hU7 y hly).1
                                have hC0 : candM ns slots now true kp y = (ns[y]!.it && !unM ns slots now true kp y && (y : Int) != kp) := rfl
                                have HC : Hid _ := hC0
                                clear hC0 hU hU7 hns
                                generalize ns[y]!.it = it at *
                                generalize unM ns slots now true kp y = un at *
                                go_upto_region 41 with fail
                                go_cut [206] (fun v206 w6 => v206 = .bool (it && !un && (y : Int) != kp) ∧ w6 = wr)
                                case first =>
                                  clear HC
                                  cases it
                                  · go_wp2
                                    go_meet
                                    exact ⟨rfl, rfl⟩
                                  · cases un
                                    · cases hjb : ((y : Int) != kp)
                                      · go_wp2
                                        go_meet
                                        exact ⟨by simp [hjb], rfl⟩
                                      · go_wp2
                                        go_meet
                                        exact ⟨by simp [hjb], rfl⟩
                                    · go_wp2
                                      go_meet
                                      exact ⟨rfl, rfl⟩
                                case rest =>
                                  obtain ⟨rfl, rfl⟩ := hcut
                                  rw [← HC.out]
                                  cases hea : candM ns slots now true kp y
                                  · have HM : Hid _ := flt_miss hea
                                    go_wp2
                                    go_roundw
                                    case rel => exact ⟨y + 1, by omega, by go_num, by rw [HM.out], by rw [HM.out], by first | trivial | rfl⟩
                                    case measure => simp [intOf]; omega
                                  · have HM : Hid _ := flt_hit hea
                                    have HT : Hid _ := nth_hit (d := d) hea
                                    by_cases hyd : (flt (candM ns slots now true kp) y).length = d
                                    · go_wp2
                                      go_roundw
                                      case rel => exact ⟨y + 1, by omega, by go_num, by rw [HM.out]; first | (simp; done) | (simp; omega), by rw [HT.out, if_pos hyd], by first | trivial | rfl⟩
                                      case measure => simp [intOf]; omega
                                    · have hyd2 : decide (((flt (candM ns slots now true kp) y).length : Int) = (d : Int)) = false := by simp; omega
                                      go_wp2
                                      go_roundw
                                      case rel => exact ⟨y + 1, by omega, by go_num, by rw [HM.out]; simp, by rw [HT.out, if_neg hyd], by first | trivial | rfl⟩
                                      case measure => simp [intOf]; omega
                              · have : y = x := by omega
                                subst this
                                have hnt : nth (flt (candM ns slots now true kp) y) d = ((flt (candM ns slots now true kp) y)[d]! : Nat) := if_pos hdl
                                have hlt9 := hcm.out (flt (candM ns slots now true kp) y)[d]! (by rw [getElem!_pos _ d hdl]; exact List.getElem_mem _)
                                have HO : Hid (MOpt ns slots now true kp s ((flt (candM ns slots now true kp) y)[d]! : Nat)) := hM2.out d (fun h => by rw [h] at hL; simp at hL) HD.out
                                generalize (flt (candM ns slots now true kp) y)[d]! = z at hnt hlt9 HO
                                rw [hnt]
                                clear hnt
                                go_wp2
                                go_meet
                                exact ⟨_, rfl, HO, by omega, by omega, hU7, hb7, hki7⟩
                        · as_aux_lemma =>
                            have hc0 : flt (candM ns slots now true kp) x = [] := List.eq_nil_of_length_eq_zero (by omega)
                            have hl0 : (flt (candM ns slots now true kp) x).length = 0 := by omega
                            by_cases hk0 : 0 ≤ kp
                            · obtain ⟨p, rfl⟩ : ∃ p : Nat, kp = p := ⟨kp.toNat, by omega⟩
                              have up := (hU p (by omega)).1
                              cases hrc : unM ns slots now true p p
                              · rw [hrc] at up
                                have HO : Hid (MOpt ns slots now true p s p) := hM3.out p hc0 (by rw [Int.toNat_natCast, hrc, Bool.and_false]; rfl)
                                rw [hl0] at *
                                go_wp2
                                go_meet
                                exact ⟨_, rfl, HO, by omega, by omega, hU, hbi, hki⟩
                              · rw [hrc] at up
                                have HO : Hid (MOpt ns slots now true p s (-1)) := hM3.out (-1) hc0 (by rw [Int.toNat_natCast, hrc]; simp)
                                rw [hl0] at *
                                go_wp2
                                go_meet
                                exact ⟨_, rfl, HO, by omega, by omega, hU, hbi, hki⟩
                            · have HO : Hid (MOpt ns slots now true kp s kp) := hM3.out kp hc0 (by have h : decide (0 ≤ kp) = false := (by simp; omega); rw [h, Bool.false_and]; rfl)
                              rw [hl0] at *
                              go_wp2
                              go_meet
                              exact ⟨_, rfl, HO, by omega, by omega, hU, hbi, hki⟩
                case rest =>
                  obtain ⟨ch, rfl, hMO, hc1, hc2, hUx, hbx, hkx⟩ := hcut
                  have hszX := hkx.size
                  rename World => wX
                  have hend : Hid (∀ w9, w9.ownsRow w0.heap.size 4 1 (.slice (some ⟨wX.heap.size, 0, none⟩) i i) i (madeCells (Value.bool false).cells (i * 1)).toList → wX.grownBy w9 none → BF w9 bu i (unM ns slots now rt kp) ∧ BF w9 wX.heap.size i (fun _ => false) ∧ Keep [] w0 w9 ∧ wX.heap.size < w9.heap.size ∧ Tag w9 bu 4 ∧ Tag w9 wX.heap.size 4) := fun w9 hown hgr => by
                    have hk9 : Keep [] wX w9 := ⟨hgr.os, hgr.tape, hgr.output, hgr.size, fun k hk _ => hgr.block k hk (by simp)⟩
                    exact ⟨hUx.keep hk9 hbx.lt (by simp), BF.made hown, hkx.trans hk9, (tag_own hown).lt, hbx.keep hk9 (by simp), tag_own hown⟩
                  have hbub := hbx.lt
                  generalize hboe : wX.heap.size = bo at *
                  by_cases hch : 0 ≤ ch
                  · obtain ⟨o, rfl⟩ : ∃ o : Nat, ch = o := ⟨ch.toNat, by omega⟩
                    have hoi : o < i := by omega
                    go_wp2_with (at_make; refine wpList_make_full _ rfl _ _ 34 rfl w0.heap.size 4 i0 _ 1 Try.underlying34 hi hz0 hz1 _ _ _ _ i rfl rfl rfl rfl (by rw [hz2]; omega) (by unfold maxLen; omega) (by rw [hboe]; exact hszX) ?_; rw [hboe]; intro w9 hown hgr; obtain ⟨hu9, ho9, hk9, hb9, ht9, hto9⟩ := hend.out w9 hown hgr; obtain ⟨u9, fu9⟩ := hu9 o hoi; obtain ⟨o9, fo9⟩ := ho9 o hoi; clear hown hgr)
                    go_ret2
                    refine ⟨bu, bo, rfl, o, hMO.out, ?_, ?_, (ht9.setCell _ _).setCell _ _, (hto9.setCell _ _).setCell _ _, ?_⟩
                    · have hks : Keep [bo] (w9.setCell ⟨bu, o, none⟩ (.bool true)) ((w9.setCell ⟨bu, o, none⟩ (.bool true)).setCell ⟨bo, o, none⟩ (.bool true)) := (Keep.refl _ _).setCell (p := ⟨bo, o, none⟩) (.inl (by simp)) _
                      have hsz9 : w9.heap.size ≤ (w9.setCell ⟨bu, o, none⟩ (.bool true)).heap.size := ((Keep.refl [bu] w9).setCell (p := ⟨bu, o, none⟩) (.inl (by simp)) _).size
                      refine BF.keep (X := [bo]) (hu9.set o true (by simp) (fun j _ hne => ?_)) hks (by omega) (by simp; omega)
                      have : ((j : Int) == (o : Int)) = false := by simp; omega
                      rw [this, Bool.or_false]
                    · have hks : Keep [bu] w9 (w9.setCell ⟨bu, o, none⟩ (.bool true)) := (Keep.refl _ _).setCell (p := ⟨bu, o, none⟩) (.inl (by simp)) _
                      refine (ho9.keep hks hb9 (by simp; omega)).set o true (by simp) (fun j _ hne => ?_)
                      simp; omega
                    · exact (hk9.setCell (p := ⟨bu, o, none⟩) (.inr hszB) _).setCell (p := ⟨bo, o, none⟩) (.inr hszX) _
                  · go_wp2_with (at_make; refine wpList_make_full _ rfl _ _ 34 rfl w0.heap.size 4 i0 _ 1 Try.underlying34 hi hz0 hz1 _ _ _ _ i rfl rfl rfl rfl (by rw [hz2]; omega) (by unfold maxLen; omega) (by rw [hboe]; exact hszX) ?_; rw [hboe]; intro w9 hown hgr; obtain ⟨hu9, ho9, hk9, hb9, ht9, hto9⟩ := hend.out w9 hown hgr; clear hown hgr)
                    go_ret2
                    have hne : ∀ j : Nat, ((j : Int) == ch) = false := fun j => by simp; omega
                    exact ⟨bu, bo, rfl, ch, hMO.out, hu9.congr (fun j _ => by rw [hne, Bool.or_false]), ho9.congr (fun j _ => by rw [hne]), ht9, hto9, hk9⟩

end Go.Proofs.Qxb6612885a
