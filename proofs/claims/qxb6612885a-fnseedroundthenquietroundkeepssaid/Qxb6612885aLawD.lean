/-
  The two laws of a downloading round: their walks.
-/
import Derived.Test.Qxb6612885aDown
import Derived.Test.Qxb6612885aPlain
namespace Go.Proofs.Qxb6612885a
open Go.Shelf Go.RowKit Go.Lib Go.Sort

theorem NArg.below {w w' : World} {v : Value} {ns : List N} (h : NArg w v ns) (hb : Below w.heap.size w w') : NArg w' v ns := by
  rcases h with ⟨rfl, a, c, rfl⟩ | ⟨b, off, c, rfl, hlt, h⟩
  · exact .inl ⟨rfl, a, c, rfl⟩
  · exact .inr ⟨b, off, c, rfl, Nat.lt_of_lt_of_le hlt hb.size, fun i hi => (h i hi).of_cells fun c _ => hb.cell hlt⟩

theorem chk_keep (w : World) (s : Nat × Nat) (slots : Int) (at_ : Nat) (rounds : Int) : Keep [] w (chk w s slots at_ rounds) := (((Keep.refl [] w).alloc _).alloc _).alloc _

theorem start_ready (w : World) (B slots at_ base : Nat) (rounds : Int) (s : Nat × Nat) (ns : List N) (hN : NsAt w B ns) (hT : Tag w B 42) (hs : s.2 < 18446744073709551616) :
    Ready (chk w s slots at_ rounds) (w.heap.size + 2) B w.heap.size (w.heap.size + 1) base slots rounds at_ (.slice none 0 0) 0 [] ns s := by
  have hk := chk_keep w s slots at_ rounds
  have hk2 : Keep [] (rnd w s) (chk w s slots at_ rounds) := (Keep.refl [] _).alloc _
  have hsz := rnd_size w s
  have hP : Tag (rnd w s) w.heap.size 60 := (show Tag (w.alloc (.cells #[encU s.1, encU s.2] 60)) w.heap.size 60 from ⟨#[encU s.1, encU s.2], by unfold World.alloc; simp⟩).keep ((Keep.refl [] _).alloc _) (by simp)
  have hB : Box (rnd w s) (w.heap.size + 1) (.iface 45 (.pointer (some ⟨w.heap.size, 0, none⟩))) 58 := by
    have := Box.new (w.alloc (.cells #[encU s.1, encU s.2] 60)) (.iface 45 (.pointer (some ⟨w.heap.size, 0, none⟩))) 58
    rw [show (w.alloc (.cells #[encU s.1, encU s.2] 60)).heap.size = w.heap.size + 1 by simp] at this
    exact this
  refine ⟨?_, World.ownsRow_nil _ _ _ _, hN.keep hk hT.lt (by simp), hT.keep hk (by simp), hk2.holds (by omega) (by simp) (rnd_holds w s), hP.keep hk2 (by simp), hB.keep hk2 (by simp), hs⟩
  unfold chk
  rw [← hsz]
  unfold World.alloc
  simp

theorem Ready.keep {w w' : World} {bc B bp br base slots : Nat} {rounds : Int} {at_ : Nat} {vo : Value} {no : Nat} {xo : List Value} {ns : List N} {s : Nat × Nat} (h : Ready w bc B bp br base slots rounds at_ vo no xo ns s) (hk : Keep [] w w') : Ready w' bc B bp br base slots rounds at_ vo no xo ns s := by
  have hT : Tag w bc 49 := ⟨_, h.chk⟩
  refine ⟨?_, own_keep hk h.own (fun b hb => by cases hb), h.ns.keep hk h.tagB.lt (by simp), h.tagB.keep hk (by simp), hk.holds h.tagP.lt (by simp) h.pcg, h.tagP.keep hk (by simp), h.rnd.keep hk (by simp), h.hs⟩
  rw [hk.block bc hT.lt (by simp)]; exact h.chk

def DownPost (w w' : World) (bc B bp br base slots : Nat) (rounds : Int) (at_ now : Nat) (ns : List N) (s : Nat × Nat) : Prop :=
  ∃ ms at' vo' no' xo' s', DlR ns slots now at_ s ms at' ∧ Ready w' bc B bp br base slots rounds at' vo' no' xo' ms s' ∧ KeepI base [B, bc, bp] w w'

/-- ZZdownloadRound -/
theorem zzDown_walk (w : World) (bc B bp br base slots : Nat) (rounds : Int) (at_ now : Nat) (vo : Value) (no : Nat) (xo : List Value) (ns : List N) (s : Nat × Nat) (hsl : 1 ≤ slots) (hsl2 : slots < 9223372036854775808) (hn : ns.length ≤ 4096) (hbase : base ≤ w.heap.size) (hnan : ∀ i : Nat, Flt.nan ns[i]!.ra = false)
    (hR : Ready w bc B bp br base slots rounds at_ vo no xo ns s) :
    Calls Try.prog 12 #[.pointer (some ⟨bc, 0, none⟩), .slice (some ⟨B, 0, none⟩) ns.length ns.length, .float .f64 now] w fun e w' => e = .returned (.tuple #[]) ∧ DownPost w w' bc B bp br base slots rounds at_ now ns s := by
  have hd := down_walk w bc B bp br base slots rounds at_ now vo no xo ns s hsl hsl2 hn hbase hnan hR
  clear hR hnan
  go_enter Try.func12, Try.ntmps12
  go_wp2_with (go_at_call 23; refine hd.mono ?_; rintro e w' ⟨rfl, h⟩; have H : DownPost w w' bc B bp br base slots rounds at_ now ns s := h; clear h)
  go_end0
  exact ⟨rfl, H⟩

theorem zz9_walk (x0 x1 x2 x3 x5 : Value) (a : Option Addr) (n c : Nat) (w : World) :
    Calls Try.prog 9 #[x0, x1, x2, x3, .slice a n c, x5] w fun e w' => e = .returned (.bool (decide (n ≤ 1048576))) ∧ w' = w := by
  by_cases h : n ≤ 1048576
  · go_enter Try.func9, Try.ntmps9
    go_wp2
    go_ret
    exact ⟨by simp [h], rfl⟩
  · go_enter Try.func9, Try.ntmps9
    go_wp2
    go_ret
    exact ⟨by simp [h], rfl⟩

theorem zz16_walk (x0 x1 x2 x3 x5 : Value) (a : Option Addr) (n c : Nat) (w : World) :
    Calls Try.prog 16 #[x0, x1, x2, x3, .slice a n c, x5] w fun e w' => e = .returned (.bool (decide (n ≤ 1048576))) ∧ w' = w := by
  by_cases h : n ≤ 1048576
  · go_enter Try.func16, Try.ntmps16
    go_wp2
    go_ret
    exact ⟨by simp [h], rfl⟩
  · go_enter Try.func16, Try.ntmps16
    go_wp2
    go_ret
    exact ⟨by simp [h], rfl⟩


/-- a number, as the zero of the type is -/
theorem nan_zero : Flt.nan 0 = false := by kernel_rfl

theorem nan_all {ns : List N} {k : Nat} (hk : ns.length = k) (h : ∀ i, i < k → Flt.nan ns[i]!.ra = false) (i : Nat) : Flt.nan ns[i]!.ra = false := by
  by_cases hi : i < k
  · exact h i hi
  · rw [getElem!_neg ns i (by omega)]; exact nan_zero

/-- what lies ready once the list was copied and the choker made -/
structure Set0 (W w : World) (B bc bp br sl : Nat) (rounds : Int) (at_ : Nat) (ns : List N) (s : Nat × Nat) : Prop where
  below : Below W.heap.size W w
  ready : Ready w bc B bp br W.heap.size sl rounds at_ (.slice none 0 0) 0 [] ns s
  hB : W.heap.size ≤ B
  hbc : W.heap.size ≤ bc
  hbp : W.heap.size ≤ bp

theorem set0 {W wq w1 : World} {sl : Nat} {rounds : Int} {at_ : Nat} {ns : List N} {s : Nat × Nat} (hs : s.2 < 18446744073709551616) (hq : Below W.heap.size W wq) (hN : NsAt w1 wq.heap.size ns) (hk : Keep [] wq w1) (hT : Tag w1 wq.heap.size 42) :
    Set0 W (chk w1 s sl at_ rounds) wq.heap.size (w1.heap.size + 2) w1.heap.size (w1.heap.size + 1) sl rounds at_ ns s := by
  have h1 := hq.size
  have h2 := hk.size
  exact ⟨(hq.trans (hk.below h1 (fun k h => by cases h))).trans ((chk_keep w1 s sl at_ rounds).below (by omega) (fun k h => by cases h)), start_ready w1 _ sl at_ _ rounds s ns hN hT hs, h1, by omega, by omega⟩

/-- all is as it was below W, and the two rows of flags are told -/
structure Set1 (W w : World) (B bc bp br sl : Nat) (rounds : Int) (at' : Nat) (ns ms : List N) (s' : Nat × Nat) (vo' : Value) (no' : Nat) (xo' : List Value) (us os : List Bool) (bu bo : Nat) : Prop where
  below : Below W.heap.size W w
  ready : Ready w bc B bp br W.heap.size sl rounds at' vo' no' xo' ms s'
  len : ms.length = ns.length
  same : ∀ i, i < ns.length → (ms[i]!).same ns[i]!
  un : ∀ i, i < ns.length → (ms[i]!).un = us[i]!
  op : ∀ i, i < ns.length → (ms[i]!).op = os[i]!
  lus : us.length = ns.length
  los : os.length = ns.length
  rbu : BsAt w bu us
  rbo : BsAt w bo os
  tu : Tag w bu 4
  tq : Tag w bo 4

theorem BsAt.keep {X : List Nat} {w w' : World} {b : Nat} {us : List Bool} (h : BsAt w b us) (hk : Keep X w w') (hb : b < w.heap.size) (hx : b ∉ X) : BsAt w' b us := fun i hi => by
  rw [hk.cell (p := ⟨b, i, none⟩) hb hx, hk.frozen (p := ⟨b, i, none⟩) hb hx]; exact h i hi

theorem Set1.keep {W w w' : World} {B bc bp br sl : Nat} {rounds : Int} {at' : Nat} {ns ms : List N} {s' : Nat × Nat} {vo' : Value} {no' : Nat} {xo' : List Value} {us os : List Bool} {bu bo : Nat} (h : Set1 W w B bc bp br sl rounds at' ns ms s' vo' no' xo' us os bu bo) (hk : Keep [] w w') : Set1 W w' B bc bp br sl rounds at' ns ms s' vo' no' xo' us os bu bo :=
  ⟨h.below.trans (hk.below h.below.size (fun k h => by cases h)), h.ready.keep hk, h.len, h.same, h.un, h.op, h.lus, h.los, h.rbu.keep hk h.tu.lt (by simp), h.rbo.keep hk h.tq.lt (by simp), h.tu.keep hk (by simp), h.tq.keep hk (by simp)⟩

theorem Set1.keepsData {W w : World} {B bc bp br sl : Nat} {rounds : Int} {at' : Nat} {ns ms : List N} {s' : Nat × Nat} {vo' : Value} {no' : Nat} {xo' : List Value} {us os : List Bool} {bu bo : Nat} (h : Set1 W w B bc bp br sl rounds at' ns ms s' vo' no' xo' us os bu bo) {n : Nat} (hn : ns.length = n) (hn2 : n ≤ 4096) {v : Value} (hv : NArg W v ns) :
    Calls Try.prog 14 #[v, .slice (some ⟨B, 0, none⟩) n n] w fun e w' => e = .returned (.bool true) ∧ Set1 W w' B bc bp br sl rounds at' ns ms s' vo' no' xo' us os bu bo := by
  subst hn
  refine (keepsData_walk v ns ms hn2 h.len h.same w (hv.below h.below) B h.ready.ns).mono ?_
  rintro e w' ⟨rfl, q, rfl⟩
  exact ⟨rfl, h.keep ((Keep.refl [] w).drewN q)⟩

theorem Set1.flagsAre {W w : World} {B bc bp br sl : Nat} {rounds : Int} {at' : Nat} {ns ms : List N} {s' : Nat × Nat} {vo' : Value} {no' : Nat} {xo' : List Value} {us os : List Bool} {bu bo : Nat} (h : Set1 W w B bc bp br sl rounds at' ns ms s' vo' no' xo' us os bu bo) {n : Nat} (hn : ns.length = n) (hn2 : n ≤ 4096) (cu co : Nat) :
    Calls Try.prog 15 #[.slice (some ⟨B, 0, none⟩) n n, .slice (some ⟨bu, 0, none⟩) n cu, .slice (some ⟨bo, 0, none⟩) n co] w fun e w' => e = .returned (.bool true) ∧ Set1 W w' B bc bp br sl rounds at' ns ms s' vo' no' xo' us os bu bo := by
  subst hn
  refine (flagsAre_walk ms ns.length h.len us os h.lus h.los hn2 h.un h.op w B bu bo cu co h.ready.ns h.rbu h.rbo).mono ?_
  rintro e w' ⟨rfl, q, rfl⟩
  exact ⟨rfl, h.keep ((Keep.refl [] w).drewN q)⟩

/-- what the first round and the model leave -/
def First (W w : World) (B bc bp br sl now at_ at' : Nat) (ns ms : List N) (s s' : Nat × Nat) (vo' : Value) (no' : Nat) (xo' : List Value) : Prop := Below W.heap.size W w ∧ DlR ns sl now at_ s ms at' ∧ Ready w bc B bp br W.heap.size sl 0 at' vo' no' xo' ms s'

theorem first_of {W w w' : World} {B bc bp br sl now at_ : Nat} {ns : List N} {s : Nat × Nat} (h0 : Set0 W w B bc bp br sl 0 at_ ns s) (h : DownPost w w' bc B bp br W.heap.size sl 0 at_ now ns s) : ∃ ms at' vo' no' xo' s', First W w' B bc bp br sl now at_ at' ns ms s s' vo' no' xo' := by
  obtain ⟨ms, at', vo', no', xo', s', h1, h2, h3⟩ := h
  exact ⟨ms, at', vo', no', xo', s', h0.below.trans (h3.below h0.below.size (fun k hk => by
    simp at hk
    rcases hk with rfl | rfl | rfl
    · exact h0.hB
    · exact h0.hbc
    · exact h0.hbp)), h1, h2⟩

theorem set1_of {W w w' : World} {B bc bp br sl now at_ at' : Nat} {ns ms : List N} {s s' : Nat × Nat} {vo' : Value} {no' : Nat} {xo' : List Value} (h : First W w B bc bp br sl now at_ at' ns ms s s' vo' no' xo') (hsl : 1 ≤ sl) (hnan : ∀ i : Nat, Flt.nan ns[i]!.ra = false) {bu bo : Nat} {rt : Bool} {ch : Int}
    (hrt : rt = rot now at_ (decide (0 ≤ keptTo ns ns.length))) (hm : MOpt ns sl now rt (keptTo ns ns.length) s ch) (hu : BF w' bu ns.length (fun i => unM ns sl now rt (keptTo ns ns.length) i || (i : Int) == ch)) (ho : BF w' bo ns.length (fun i => (i : Int) == ch)) (tu : Tag w' bu 4) (tq : Tag w' bo 4) (hk : Keep [] w w') :
    Set1 W w' B bc bp br sl 0 at' ns ms s' vo' no' xo' ((List.range ns.length).map (fun i => unM ns sl now rt (keptTo ns ns.length) i || (i : Int) == ch)) ((List.range ns.length).map (fun (i : Nat) => (i : Int) == ch)) bu bo := by
  obtain ⟨h1, h2, h3⟩ := h
  obtain ⟨m1, m2, m3⟩ := down_model hnan hsl h2 hrt hm
  refine ⟨h1.trans (hk.below h1.size (fun k h => by cases h)), h3.keep hk, m1, m2, fun i hi => ?_, fun i hi => ?_, by simp, by simp, hu.bs, ho.bs, tu, tq⟩
  · rw [(m3 i hi).1, getElem!_pos _ i (by simpa using hi)]; simp
  · rw [(m3 i hi).2, getElem!_pos _ i (by simpa using hi)]; simp

/-- the second round -/
theorem set1_again {W w w' : World} {B bc bp br sl now at_ at' : Nat} {ns ms : List N} {s s' : Nat × Nat} {vo' : Value} {no' : Nat} {xo' : List Value} {us os : List Bool} {bu bo : Nat} (hnan : ∀ i : Nat, Flt.nan ns[i]!.ra = false) (hd : DlR ns sl now at_ s ms at') (h : Set1 W w B bc bp br sl 0 at' ns ms s' vo' no' xo' us os bu bo)
    (hB : W.heap.size ≤ B) (hbc : W.heap.size ≤ bc) (hbp : W.heap.size ≤ bp) (hp : DownPost w w' bc B bp br W.heap.size sl 0 at' now ms s') : ∃ ms2 at2 s2 vo2 no2 xo2, Set1 W w' B bc bp br sl 0 at2 ns ms2 s2 vo2 no2 xo2 us os bu bo := by
  obtain ⟨ms2, at2, vo2, no2, xo2, s2, h1, h2, h3⟩ := hp
  obtain ⟨e1, e2⟩ := down_again hnan hd h1
  have hTc : Tag w bc 49 := ⟨_, h.ready.chk⟩
  have nu : bu ∉ [B, bc, bp] := by simp; exact ⟨h.tu.ne h.ready.tagB (by decide), h.tu.ne hTc (by decide), h.tu.ne h.ready.tagP (by decide)⟩
  have no : bo ∉ [B, bc, bp] := by simp; exact ⟨h.tq.ne h.ready.tagB (by decide), h.tq.ne hTc (by decide), h.tq.ne h.ready.tagP (by decide)⟩
  refine ⟨ms2, at2, s2, vo2, no2, xo2, h.below.trans (h3.below h.below.size (fun k hk => by
    simp at hk
    rcases hk with rfl | rfl | rfl
    · exact hB
    · exact hbc
    · exact hbp)), h2, e1, fun i hi => by rw [e2 i hi]; exact h.same i hi, fun i hi => by rw [e2 i hi]; exact h.un i hi, fun i hi => by rw [e2 i hi]; exact h.op i hi, h.lus, h.los, fun i hi => ?_, fun i hi => ?_, h3.tag h.tu nu (by decide), h3.tag h.tq no (by decide)⟩
  · rw [h3.cell h.tu nu (by decide), h3.frz h.tu nu (by decide)]; exact h.rbu i hi
  · rw [h3.cell h.tq no (by decide), h3.frz h.tq no (by decide)]; exact h.rbo i hi

set_option maxHeartbeats 10000000 in
set_option maxRecDepth 100000 in
theorem law4_walk (slots : Int) (hsw : slots < 9223372036854775808) (s : Nat × Nat) (hs : s.2 < 18446744073709551616) (at_ now : Nat) (v : Value) (ns : List N) (W : World) (hv : NArg W v ns) :
    Calls Try.prog 4 #[.int .i64 slots, .int .u64 s.1, .int .u64 s.2, .float .f64 at_, v, .float .f64 now] W fun e w' => e = .returned (.bool true) ∧ Below W.heap.size W w' := by
  obtain ⟨a, c, rfl, hns⟩ := hv.gen
  have hz := fun x0 x1 x2 x3 x5 w => zz9_walk x0 x1 x2 x3 x5 a ns.length c w
  have HV : Hid (NArg W (.slice a ns.length c) ns) := hv
  have hB0 := Below.refl W.heap.size W
  obtain ⟨n, hnn⟩ : ∃ n, ns.length = n := ⟨_, rfl⟩
  rw [hnn] at hz hns HV ⊢
  clear hv
  by_cases h20 : n ≤ 1048576
  · have hzb : decide (n ≤ 1048576) = true := decide_eq_true h20
    rw [hzb] at hz
    clear hzb
    by_cases h12 : n ≤ 4096
    · by_cases hs1 : 1 ≤ slots
      · obtain ⟨sl, rfl⟩ : ∃ sl : Nat, slots = sl := ⟨slots.toNat, by omega⟩
        have hsn : sl < 9223372036854775808 := by omega
        have hsn1 : 1 ≤ sl := by omega
        clear hsw hs1
        go_enter Try.func4, Try.ntmps4
        go_wp2_with (go_at_call 9; refine (hz _ _ _ _ _ _).mono ?_; rintro e w1 ⟨rfl, hw⟩; subst w1)
        go_loopw [13] (fun v13 wr => ∃ k : Nat, k ≤ n ∧ v13 = .int .i64 k ∧ (∀ i, i < k → Flt.nan ns[i]!.ra = false) ∧ ∃ q, wr = W.drewN q) (fun v13 _ => n - (intOf v13).toNat)
        case atStart => exact ⟨0, by omega, rfl, fun i hi => absurd hi (Nat.not_lt_zero i), 0, rfl⟩
        case round =>
          obtain ⟨k, hk, rfl, hnan, q, rfl⟩ := hrel
          by_cases hlt : k < n
          · obtain ⟨b, off, rfl, hb, _, _, _, _, c4, _⟩ := hns k hlt
            have he := Flt.eq_self ns[k]!.ra
            have hq : (FloatKind.f64.format.order ns[k]!.ra ns[k]!.ra != some Ordering.eq) = Flt.nan ns[k]!.ra := by
              unfold Flt.eq Flt.ord at he
              unfold bne
              rw [he, Bool.not_not]
            cases hkn : Flt.nan ns[k]!.ra
            · have HN : Hid (∀ i, i < k + 1 → Flt.nan ns[i]!.ra = false) := fun i hi => by
                by_cases e : i = k
                · subst e; exact hkn
                · exact hnan i (by omega)
              rw [hkn] at hq
              clear he hnan hns hkn HV
              generalize ns[k]!.ra = r at *
              go_wp2_with fail
              go_quiet (fail)
              go_wp2
              go_roundw
              case rel => exact ⟨k + 1, by omega, by go_num, HN.out, _, rfl⟩
              case measure => simp [intOf]; omega
            · rw [hkn] at hq
              clear he hnan hns hkn HV
              generalize ns[k]!.ra = r at *
              go_wp2_with fail
              go_quiet (fail)
              go_wp2
              go_ret
              exact ⟨rfl, (((Keep.refl [] W).drewN _).drewN _).below (Nat.le_refl _) (fun k hk => by cases hk)⟩
          · have : k = n := by omega
            subst this
            have HNaN : Hid (∀ i : Nat, Flt.nan ns[i]!.ra = false) := nan_all hnn hnan
            have hbq : Below W.heap.size W (W.drewN q) := ((Keep.refl [] W).drewN q).below (Nat.le_refl _) (fun k hk => by cases hk)
            have hto := toNb_walk (.slice a k c) ns (by omega) (W.drewN q) (HV.out.below hbq)
            rw [hnn] at hto
            clear hnan hns hz hlt hk hB0
            generalize W.drewN q = wq at *
            go_upto_region 13 with (go_at_call 10; refine hto.mono ?_; rintro e w1 ⟨rfl, hN1, hk1, hT1⟩)
            have H0 : Hid (Set0 W (chk w1 s sl at_ 0) wq.heap.size (w1.heap.size + 2) w1.heap.size (w1.heap.size + 1) sl 0 at_ ns s) := set0 hs hbq hN1 hk1 hT1
            have hch := newChoker_walk s sl 0 at_ w1
            clear hto hN1 hk1 hT1 hbq
            go_upto_region 14 with (go_at_call 11; refine hch.mono ?_; rintro e w2 ⟨rfl, hw2⟩; rw [← hw2] at H0; clear hw2)
            generalize w1.heap.size + 2 = bc at *
            generalize w1.heap.size + 1 = br at *
            generalize w1.heap.size = bp at *
            generalize wq.heap.size = B at *
            have hdn := zzDown_walk w2 bc B bp br W.heap.size sl 0 at_ now _ _ _ ns s hsn1 hsn (by omega) H0.out.below.size HNaN.out H0.out.ready
            rw [hnn] at hdn
            clear hch
            go_upto_region 15 with (go_at_call 12; refine hdn.mono ?_; rintro e w3 ⟨rfl, hp3⟩; obtain ⟨ms, at', vo', no', xo', s', hF⟩ := first_of H0.out hp3; have HF : Hid (First W w3 B bc bp br sl now at_ at' ns ms s s' vo' no' xo') := hF; clear hF hp3)
            have hmd := model_walk (.slice a k c) ns sl hsn1 hsn s hs at_ now w3 (HV.out.below HF.out.1) (by omega)
            rw [hnn] at hmd
            clear hdn
            go_upto_region 16 with (go_at_call 13; refine hmd.mono ?_; rintro e w4 ⟨bu, bo, rt, ch, rfl, hrt, hmo, hu4, ho4, tu4, to4, hk4⟩; rw [← hnn] at hrt hmo hu4 ho4; have HS : Hid (Set1 W w4 B bc bp br sl 0 at' ns ms s' vo' no' xo' _ _ bu bo) := set1_of HF.out hsn1 HNaN.out hrt hmo hu4 ho4 tu4 to4 hk4; clear hrt hmo hu4 ho4 tu4 to4 hk4)
            clear hmd
            generalize List.map (fun i => unM ns sl now rt (keptTo ns ns.length) i || (i : Int) == ch) (List.range ns.length) = us at *
            generalize List.map (fun (i : Nat) => (i : Int) == ch) (List.range ns.length) = os at *
            have hkd := HS.out.keepsData hnn (by omega) HV.out
            go_wp2_with (first | (go_at_call 14; refine hkd.mono ?_; rintro e w5 ⟨rfl, hS5⟩; have hfa := hS5.flagsAre hnn (by omega) k k; clear hS5) | (go_at_call 15; refine hfa.mono ?_; rintro e w6 ⟨rfl, hS6⟩; have hfin := hS6.below; clear hS6))
            go_ret
            exact ⟨rfl, hfin⟩
      · have hs2 : slots < 1 := by omega
        by_cases hsm : 0 ≤ slots
        · obtain rfl : slots = 0 := by omega
          clear hsw hs1 hs2 hsm hns
          go_enter Try.func4, Try.ntmps4
          go_wp2_with (go_at_call 9; refine (hz _ _ _ _ _ _).mono ?_; rintro e w1 ⟨rfl, hw⟩; subst w1)
          go_ret
          exact ⟨rfl, hB0⟩
        · clear hsw hs1 hsm hns
          go_enter Try.func4, Try.ntmps4
          go_wp2_with (go_at_call 9; refine (hz _ _ _ _ _ _).mono ?_; rintro e w1 ⟨rfl, hw⟩; subst w1)
          go_ret
          exact ⟨rfl, hB0⟩
    · clear hsw hns
      go_enter Try.func4, Try.ntmps4
      go_wp2_with (go_at_call 9; refine (hz _ _ _ _ _ _).mono ?_; rintro e w1 ⟨rfl, hw⟩; subst w1)
      go_ret
      exact ⟨rfl, hB0⟩
  · have hzb : decide (n ≤ 1048576) = false := decide_eq_false h20
    rw [hzb] at hz
    clear hzb hsw hns
    go_enter Try.func4, Try.ntmps4
    go_wp2_with (go_at_call 9; refine (hz _ _ _ _ _ _).mono ?_; rintro e w1 ⟨rfl, hw⟩; subst w1)
    go_ret
    exact ⟨rfl, hB0⟩

set_option maxHeartbeats 10000000 in
set_option maxRecDepth 100000 in
theorem law5_walk (slots : Int) (hsw : slots < 9223372036854775808) (s : Nat × Nat) (hs : s.2 < 18446744073709551616) (at_ now : Nat) (v : Value) (ns : List N) (W : World) (hv : NArg W v ns) :
    Calls Try.prog 5 #[.int .i64 slots, .int .u64 s.1, .int .u64 s.2, .float .f64 at_, v, .float .f64 now] W fun e w' => e = .returned (.bool true) ∧ Below W.heap.size W w' := by
  obtain ⟨a, c, rfl, hns⟩ := hv.gen
  have hz := fun x0 x1 x2 x3 x5 w => zz16_walk x0 x1 x2 x3 x5 a ns.length c w
  have HV : Hid (NArg W (.slice a ns.length c) ns) := hv
  have hB0 := Below.refl W.heap.size W
  obtain ⟨n, hnn⟩ : ∃ n, ns.length = n := ⟨_, rfl⟩
  rw [hnn] at hz hns HV ⊢
  clear hv
  by_cases h20 : n ≤ 1048576
  · have hzb : decide (n ≤ 1048576) = true := decide_eq_true h20
    rw [hzb] at hz
    clear hzb
    by_cases h12 : n ≤ 4096
    · by_cases hs1 : 1 ≤ slots
      · obtain ⟨sl, rfl⟩ : ∃ sl : Nat, slots = sl := ⟨slots.toNat, by omega⟩
        have hsn : sl < 9223372036854775808 := by omega
        have hsn1 : 1 ≤ sl := by omega
        clear hsw hs1
        go_enter Try.func5, Try.ntmps5
        go_wp2_with (go_at_call 16; refine (hz _ _ _ _ _ _).mono ?_; rintro e w1 ⟨rfl, hw⟩; subst w1)
        go_loopw [13] (fun v13 wr => ∃ k : Nat, k ≤ n ∧ v13 = .int .i64 k ∧ (∀ i, i < k → Flt.nan ns[i]!.ra = false) ∧ ∃ q, wr = W.drewN q) (fun v13 _ => n - (intOf v13).toNat)
        case atStart => exact ⟨0, by omega, rfl, fun i hi => absurd hi (Nat.not_lt_zero i), 0, rfl⟩
        case round =>
          obtain ⟨k, hk, rfl, hnan, q, rfl⟩ := hrel
          by_cases hlt : k < n
          · obtain ⟨b, off, rfl, hb, _, _, _, _, c4, _⟩ := hns k hlt
            have he := Flt.eq_self ns[k]!.ra
            have hq : (FloatKind.f64.format.order ns[k]!.ra ns[k]!.ra != some Ordering.eq) = Flt.nan ns[k]!.ra := by
              unfold Flt.eq Flt.ord at he
              unfold bne
              rw [he, Bool.not_not]
            cases hkn : Flt.nan ns[k]!.ra
            · have HN : Hid (∀ i, i < k + 1 → Flt.nan ns[i]!.ra = false) := fun i hi => by
                by_cases e : i = k
                · subst e; exact hkn
                · exact hnan i (by omega)
              rw [hkn] at hq
              clear he hnan hns hkn HV
              generalize ns[k]!.ra = r at *
              go_wp2_with fail
              go_quiet (fail)
              go_wp2
              go_roundw
              case rel => exact ⟨k + 1, by omega, by go_num, HN.out, _, rfl⟩
              case measure => simp [intOf]; omega
            · rw [hkn] at hq
              clear he hnan hns hkn HV
              generalize ns[k]!.ra = r at *
              go_wp2_with fail
              go_quiet (fail)
              go_wp2
              go_ret
              exact ⟨rfl, (((Keep.refl [] W).drewN _).drewN _).below (Nat.le_refl _) (fun k hk => by cases hk)⟩
          · have : k = n := by omega
            subst this
            have HNaN : Hid (∀ i : Nat, Flt.nan ns[i]!.ra = false) := nan_all hnn hnan
            have hbq : Below W.heap.size W (W.drewN q) := ((Keep.refl [] W).drewN q).below (Nat.le_refl _) (fun k hk => by cases hk)
            have hto := toNb_walk (.slice a k c) ns (by omega) (W.drewN q) (HV.out.below hbq)
            rw [hnn] at hto
            clear hnan hns hz hlt hk hB0
            generalize W.drewN q = wq at *
            go_upto_region 13 with (go_at_call 10; refine hto.mono ?_; rintro e w1 ⟨rfl, hN1, hk1, hT1⟩)
            have H0 : Hid (Set0 W (chk w1 s sl at_ 0) wq.heap.size (w1.heap.size + 2) w1.heap.size (w1.heap.size + 1) sl 0 at_ ns s) := set0 hs hbq hN1 hk1 hT1
            have hch := newChoker_walk s sl 0 at_ w1
            clear hto hN1 hk1 hT1 hbq
            go_upto_region 14 with (go_at_call 11; refine hch.mono ?_; rintro e w2 ⟨rfl, hw2⟩; rw [← hw2] at H0; clear hw2)
            generalize w1.heap.size + 2 = bc at *
            generalize w1.heap.size + 1 = br at *
            generalize w1.heap.size = bp at *
            generalize wq.heap.size = B at *
            have hdn := zzDown_walk w2 bc B bp br W.heap.size sl 0 at_ now _ _ _ ns s hsn1 hsn (by omega) H0.out.below.size HNaN.out H0.out.ready
            rw [hnn] at hdn
            clear hch
            go_upto_region 15 with (go_at_call 12; refine hdn.mono ?_; rintro e w3 ⟨rfl, hp3⟩; obtain ⟨ms, at', vo', no', xo', s', hF⟩ := first_of H0.out hp3; have HF : Hid (First W w3 B bc bp br sl now at_ at' ns ms s s' vo' no' xo') := hF; clear hF hp3)
            have hmd := model_walk (.slice a k c) ns sl hsn1 hsn s hs at_ now w3 (HV.out.below HF.out.1) (by omega)
            rw [hnn] at hmd
            clear hdn
            go_upto_region 16 with (go_at_call 13; refine hmd.mono ?_; rintro e w4 ⟨bu, bo, rt, ch, rfl, hrt, hmo, hu4, ho4, tu4, to4, hk4⟩; rw [← hnn] at hrt hmo hu4 ho4; have HS : Hid (Set1 W w4 B bc bp br sl 0 at' ns ms s' vo' no' xo' _ _ bu bo) := set1_of HF.out hsn1 HNaN.out hrt hmo hu4 ho4 tu4 to4 hk4; clear hrt hmo hu4 ho4 tu4 to4 hk4)
            clear hmd
            generalize List.map (fun i => unM ns sl now rt (keptTo ns ns.length) i || (i : Int) == ch) (List.range ns.length) = us at *
            generalize List.map (fun (i : Nat) => (i : Int) == ch) (List.range ns.length) = os at *
            have hkd := HS.out.keepsData hnn (by omega) HV.out
            have hB : W.heap.size ≤ B := H0.out.hB
            have hbc : W.heap.size ≤ bc := H0.out.hbc
            have hbp : W.heap.size ≤ bp := H0.out.hbp
            go_upto_region 18 with (first | (go_at_call 14; refine hkd.mono ?_; rintro e w5 ⟨rfl, hS5⟩; have hfa := hS5.flagsAre hnn (by omega) k k; clear hS5) | (go_at_call 15; refine hfa.mono ?_; rintro e w6 ⟨rfl, hS6⟩; have HS6 : Hid (Set1 W w6 B bc bp br sl 0 at' ns ms s' vo' no' xo' us os bu bo) := hS6; clear hS6))
            have hmn : ∀ i : Nat, Flt.nan ms[i]!.ra = false := nan_all HS6.out.len (fun i hi => by rw [(HS6.out.same i hi).2.2.1]; exact HNaN.out i)
            have hd2 := zzDown_walk w6 bc B bp br W.heap.size sl 0 at' now _ _ _ ms s' hsn1 hsn (by rw [HS6.out.len]; omega) HS6.out.below.size hmn HS6.out.ready
            rw [HS6.out.len, hnn] at hd2
            clear hmn hkd
            go_upto_region 19 with (go_at_call 12; refine hd2.mono ?_; rintro e w7 ⟨rfl, hp7⟩; obtain ⟨ms2, at2, s2, vo2, no2, xo2, hS7⟩ := set1_again HNaN.out HF.out.2.1 HS6.out hB hbc hbp hp7; have HS7 : Hid (Set1 W w7 B bc bp br sl 0 at2 ns ms2 s2 vo2 no2 xo2 us os bu bo) := hS7; clear hS7 hp7)
            have hkd2 := HS7.out.keepsData hnn (by omega) HV.out
            clear hd2
            go_wp2_with (first | (go_at_call 14; refine hkd2.mono ?_; rintro e w8 ⟨rfl, hS8⟩; have hfa2 := hS8.flagsAre hnn (by omega) k k; clear hS8) | (go_at_call 15; refine hfa2.mono ?_; rintro e w9 ⟨rfl, hS9⟩; have hfin := hS9.below; clear hS9))
            go_ret
            exact ⟨rfl, hfin⟩
      · have hs2 : slots < 1 := by omega
        by_cases hsm : 0 ≤ slots
        · obtain rfl : slots = 0 := by omega
          clear hsw hs1 hs2 hsm hns
          go_enter Try.func5, Try.ntmps5
          go_wp2_with (go_at_call 16; refine (hz _ _ _ _ _ _).mono ?_; rintro e w1 ⟨rfl, hw⟩; subst w1)
          go_ret
          exact ⟨rfl, hB0⟩
        · clear hsw hs1 hsm hns
          go_enter Try.func5, Try.ntmps5
          go_wp2_with (go_at_call 16; refine (hz _ _ _ _ _ _).mono ?_; rintro e w1 ⟨rfl, hw⟩; subst w1)
          go_ret
          exact ⟨rfl, hB0⟩
    · clear hsw hns
      go_enter Try.func5, Try.ntmps5
      go_wp2_with (go_at_call 16; refine (hz _ _ _ _ _ _).mono ?_; rintro e w1 ⟨rfl, hw⟩; subst w1)
      go_ret
      exact ⟨rfl, hB0⟩
  · have hzb : decide (n ≤ 1048576) = false := decide_eq_false h20
    rw [hzb] at hz
    clear hzb hsw hns
    go_enter Try.func5, Try.ntmps5
    go_wp2_with (go_at_call 16; refine (hz _ _ _ _ _ _).mono ?_; rintro e w1 ⟨rfl, hw⟩; subst w1)
    go_ret
    exact ⟨rfl, hB0⟩

end Go.Proofs.Qxb6612885a
