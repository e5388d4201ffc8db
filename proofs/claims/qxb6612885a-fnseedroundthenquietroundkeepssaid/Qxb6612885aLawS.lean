/-
  The two laws of a seed's round: their walks.
-/
import Derived.Test.Qxb6612885aLawD
import Derived.Test.Qxb6612885aSeed
import Derived.Test.Qxb6612885aSdModel
import Derived.Test.Qxb6612885aSdAgain
namespace Go.Proofs.Qxb6612885a
open Go.Shelf Go.RowKit Go.Lib Go.Sort

def SeedPost (w w' : World) (bc B bp br base slots : Nat) (rounds : Int) (at_ : Nat) (per : Bool) (ns : List N) (s : Nat × Nat) : Prop :=
  ∃ ms vo' no' xo' s', SdR ns slots rounds per s ms ∧ Ready w' bc B bp br base slots rounds at_ vo' no' xo' ms s' ∧ KeepI base [B, bc, bp] w w'

/-- ZZseedRound -/
theorem zzSeed_walk (w : World) (bc B bp br base slots : Nat) (rounds : Int) (at_ : Nat) (per : Bool) (vo : Value) (no : Nat) (xo : List Value) (ns : List N) (s : Nat × Nat) (hsl : 1 ≤ slots) (hsl2 : slots < 9223372036854775808) (hn : ns.length ≤ 4096) (hbase : base ≤ w.heap.size) (hnan : ∀ i : Nat, Flt.nan ns[i]!.ra = false) (hnanu : ∀ i : Nat, Flt.nan ns[i]!.ua = false)
    (hR : Ready w bc B bp br base slots rounds at_ vo no xo ns s) :
    Calls Try.prog 18 #[.pointer (some ⟨bc, 0, none⟩), .slice (some ⟨B, 0, none⟩) ns.length ns.length, .bool per] w fun e w' => e = .returned (.tuple #[]) ∧ SeedPost w w' bc B bp br base slots rounds at_ per ns s := by
  have hd := seed_walk w bc B bp br base slots rounds at_ per vo no xo ns s hsl hsl2 hn hbase hnan hnanu hR
  clear hR hnan hnanu
  go_enter Try.func18, Try.ntmps18
  go_wp2_with (go_at_call 27; refine hd.mono ?_; rintro e w' ⟨rfl, h⟩; have H : SeedPost w w' bc B bp br base slots rounds at_ per ns s := h; clear h)
  go_end0
  exact ⟨rfl, H⟩

theorem zz17_walk (x0 x1 x2 x3 x5 : Value) (a : Option Addr) (n c : Nat) (w : World) :
    Calls Try.prog 17 #[x0, x1, x2, x3, .slice a n c, x5] w fun e w' => e = .returned (.bool (decide (n ≤ 1048576))) ∧ w' = w := by
  by_cases h : n ≤ 1048576
  · go_enter Try.func17, Try.ntmps17
    go_wp2
    go_ret
    exact ⟨by simp [h], rfl⟩
  · go_enter Try.func17, Try.ntmps17
    go_wp2
    go_ret
    exact ⟨by simp [h], rfl⟩

theorem zz20_walk (x0 x1 x2 x3 x5 : Value) (a : Option Addr) (n c : Nat) (w : World) :
    Calls Try.prog 20 #[x0, x1, x2, x3, .slice a n c, x5] w fun e w' => e = .returned (.bool (decide (n ≤ 1048576))) ∧ w' = w := by
  by_cases h : n ≤ 1048576
  · go_enter Try.func20, Try.ntmps20
    go_wp2
    go_ret
    exact ⟨by simp [h], rfl⟩
  · go_enter Try.func20, Try.ntmps20
    go_wp2
    go_ret
    exact ⟨by simp [h], rfl⟩

theorem nanu_all {ns : List N} {k : Nat} (hk : ns.length = k) (h : ∀ i, i < k → Flt.nan ns[i]!.ua = false) (i : Nat) : Flt.nan ns[i]!.ua = false := by
  by_cases hi : i < k
  · exact h i hi
  · rw [getElem!_neg ns i (by omega)]; exact nan_zero

/-- what the first round leaves -/
def FirstS (W w : World) (B bc bp br sl : Nat) (rounds : Int) (per : Bool) (at_ : Nat) (ns ms : List N) (s s' : Nat × Nat) (vo' : Value) (no' : Nat) (xo' : List Value) : Prop := Below W.heap.size W w ∧ SdR ns sl rounds per s ms ∧ Ready w bc B bp br W.heap.size sl rounds at_ vo' no' xo' ms s'

theorem firstS_of {W w w' : World} {B bc bp br sl : Nat} {rounds : Int} {per : Bool} {at_ : Nat} {ns : List N} {s : Nat × Nat} (h0 : Set0 W w B bc bp br sl rounds at_ ns s) (h : SeedPost w w' bc B bp br W.heap.size sl rounds at_ per ns s) : ∃ ms vo' no' xo' s', FirstS W w' B bc bp br sl rounds per at_ ns ms s s' vo' no' xo' := by
  obtain ⟨ms, vo', no', xo', s', h1, h2, h3⟩ := h
  exact ⟨ms, vo', no', xo', s', h0.below.trans (h3.below h0.below.size (fun k hk => by
    simp at hk
    rcases hk with rfl | rfl | rfl
    · exact h0.hB
    · exact h0.hbc
    · exact h0.hbp)), h1, h2⟩

/-- .. and the model -/
structure SetS (W w : World) (B bc bp br sl : Nat) (rounds : Int) (at_ : Nat) (ns ms : List N) (s' : Nat × Nat) (vo' : Value) (no' : Nat) (xo' : List Value) (us : List Bool) (bu : Nat) : Prop where
  below : Below W.heap.size W w
  ready : Ready w bc B bp br W.heap.size sl rounds at_ vo' no' xo' ms s'
  len : ms.length = ns.length
  same : ∀ i, i < ns.length → (ms[i]!).same ns[i]!
  un : ∀ i, i < ns.length → (ms[i]!).un = us[i]!
  op : ∀ i, i < ns.length → (ms[i]!).op = false
  lus : us.length = ns.length
  rbu : BsAt w bu us
  tu : Tag w bu 4

theorem SetS.keep {W w w' : World} {B bc bp br sl : Nat} {rounds : Int} {at_ : Nat} {ns ms : List N} {s' : Nat × Nat} {vo' : Value} {no' : Nat} {xo' : List Value} {us : List Bool} {bu : Nat} (h : SetS W w B bc bp br sl rounds at_ ns ms s' vo' no' xo' us bu) (hk : Keep [] w w') : SetS W w' B bc bp br sl rounds at_ ns ms s' vo' no' xo' us bu :=
  ⟨h.below.trans (hk.below h.below.size (fun k h => by cases h)), h.ready.keep hk, h.len, h.same, h.un, h.op, h.lus, h.rbu.keep hk h.tu.lt (by simp), h.tu.keep hk (by simp)⟩

theorem SetS.keepsData {W w : World} {B bc bp br sl : Nat} {rounds : Int} {at_ : Nat} {ns ms : List N} {s' : Nat × Nat} {vo' : Value} {no' : Nat} {xo' : List Value} {us : List Bool} {bu : Nat} (h : SetS W w B bc bp br sl rounds at_ ns ms s' vo' no' xo' us bu) {n : Nat} (hn : ns.length = n) (hn2 : n ≤ 4096) {v : Value} (hv : NArg W v ns) :
    Calls Try.prog 14 #[v, .slice (some ⟨B, 0, none⟩) n n] w fun e w' => e = .returned (.bool true) ∧ SetS W w' B bc bp br sl rounds at_ ns ms s' vo' no' xo' us bu := by
  subst hn
  refine (keepsData_walk v ns ms hn2 h.len h.same w (hv.below h.below) B h.ready.ns).mono ?_
  rintro e w' ⟨rfl, q, rfl⟩
  exact ⟨rfl, h.keep ((Keep.refl [] w).drewN q)⟩

theorem setS_of {W w w' : World} {B bc bp br sl : Nat} {rounds : Int} {per : Bool} {at_ : Nat} {ns ms : List N} {s s' : Nat × Nat} {vo' : Value} {no' : Nat} {xo' : List Value} (h : FirstS W w B bc bp br sl rounds per at_ ns ms s s' vo' no' xo') (hsl : 1 ≤ sl) (hnan : ∀ i : Nat, Flt.nan ns[i]!.ra = false) (hnanu : ∀ i : Nat, Flt.nan ns[i]!.ua = false) {bu d : Nat}
    (hdr : draws rounds per sl (flt (isI ns) ns.length).length = true → DrawR ((flt (isI ns) ns.length).length - (sl - 1)) s d) (hu : BF w' bu ns.length (unS ns sl (draws rounds per sl (flt (isI ns) ns.length).length) d)) (tu : Tag w' bu 4) (hk : Keep [] w w') :
    SetS W w' B bc bp br sl rounds at_ ns ms s' vo' no' xo' ((List.range ns.length).map (unS ns sl (draws rounds per sl (flt (isI ns) ns.length).length) d)) bu := by
  obtain ⟨h1, h2, h3⟩ := h
  obtain ⟨m1, m2, m3⟩ := seed_model hnan hnanu hsl h2 hdr
  refine ⟨h1.trans (hk.below h1.size (fun k h => by cases h)), h3.keep hk, m1, m2, fun i hi => ?_, fun i hi => (m3 i hi).2, by simp, hu.bs, tu⟩
  rw [(m3 i hi).1, getElem!_pos _ i (by simpa using hi)]; simp

/-- a fresh row of false flags -/
theorem SetS.none {W w w' : World} {B bc bp br sl : Nat} {rounds : Int} {at_ : Nat} {ns ms : List N} {s' : Nat × Nat} {vo' : Value} {no' : Nat} {xo' : List Value} {us : List Bool} {bu base n : Nat} (h : SetS W w B bc bp br sl rounds at_ ns ms s' vo' no' xo' us bu) (hn : ns.length = n)
    (hown : w'.ownsRow base 4 1 (.slice (some ⟨w.heap.size, 0, .none⟩) n n) n (madeCells (Value.bool false).cells (n * 1)).toList) (hgr : w.grownBy w' .none) : Set1 W w' B bc bp br sl rounds at_ ns ms s' vo' no' xo' us ((List.range n).map (fun _ => false)) bu w.heap.size := by
  subst hn
  have hk : Keep [] w w' := ⟨hgr.os, hgr.tape, hgr.output, hgr.size, fun k hk _ => hgr.block k hk (by simp)⟩
  have h' := h.keep hk
  refine ⟨h'.below, h'.ready, h'.len, h'.same, h'.un, fun i hi => ?_, h'.lus, by simp, h'.rbu, (BF.made hown).bs, h'.tu, tag_own hown⟩
  rw [h'.op i hi, getElem!_pos _ i (by simpa using hi)]; simp

/-- the quiet round -/
theorem set1_quiet {W w w' : World} {B bc bp br sl : Nat} {rounds : Int} {per : Bool} {at_ : Nat} {ns ms : List N} {s s' : Nat × Nat} {vo' : Value} {no' : Nat} {xo' : List Value} {us os : List Bool} {bu bo : Nat} (hnan : ∀ i : Nat, Flt.nan ns[i]!.ra = false) (hnanu : ∀ i : Nat, Flt.nan ns[i]!.ua = false) (hsl : 1 ≤ sl) (hd : SdR ns sl rounds per s ms) (h : Set1 W w B bc bp br sl rounds at_ ns ms s' vo' no' xo' us os bu bo)
    (hB : W.heap.size ≤ B) (hbc : W.heap.size ≤ bc) (hbp : W.heap.size ≤ bp) (hp : SeedPost w w' bc B bp br W.heap.size sl rounds at_ false ms s') : ∃ ms2 s2 vo2 no2 xo2, Set1 W w' B bc bp br sl rounds at_ ns ms2 s2 vo2 no2 xo2 us os bu bo := by
  obtain ⟨ms2, vo2, no2, xo2, s2, h1, h2, h3⟩ := hp
  obtain ⟨e1, e2⟩ := seed_again hnan hnanu hsl hd h1
  have hTc : Tag w bc 49 := ⟨_, h.ready.chk⟩
  have nu : bu ∉ [B, bc, bp] := by simp; exact ⟨h.tu.ne h.ready.tagB (by decide), h.tu.ne hTc (by decide), h.tu.ne h.ready.tagP (by decide)⟩
  have no : bo ∉ [B, bc, bp] := by simp; exact ⟨h.tq.ne h.ready.tagB (by decide), h.tq.ne hTc (by decide), h.tq.ne h.ready.tagP (by decide)⟩
  refine ⟨ms2, s2, vo2, no2, xo2, h.below.trans (h3.below h.below.size (fun k hk => by
    simp at hk
    rcases hk with rfl | rfl | rfl
    · exact hB
    · exact hbc
    · exact hbp)), h2, e1, fun i hi => by rw [e2 i hi]; exact h.same i hi, fun i hi => by rw [e2 i hi]; exact h.un i hi, fun i hi => by rw [e2 i hi]; exact h.op i hi, h.lus, h.los, fun i hi => ?_, fun i hi => ?_, h3.tag h.tu nu (by decide), h3.tag h.tq no (by decide)⟩
  · rw [h3.cell h.tu nu (by decide), h3.frz h.tu nu (by decide)]; exact h.rbu i hi
  · rw [h3.cell h.tq no (by decide), h3.frz h.tq no (by decide)]; exact h.rbo i hi

set_option maxHeartbeats 10000000 in
set_option maxRecDepth 100000 in
theorem law6_walk (slots rounds : Int) (hsw : slots < 9223372036854775808) (hrw : rounds < 9223372036854775808) (s : Nat × Nat) (hs : s.2 < 18446744073709551616) (per : Bool) (v : Value) (ns : List N) (W : World) (hv : NArg W v ns) :
    Calls Try.prog 6 #[.int .i64 slots, .int .u64 s.1, .int .u64 s.2, .int .i64 rounds, v, .bool per] W fun e w' => e = .returned (.bool true) ∧ Below W.heap.size W w' := by
  obtain ⟨a, c, rfl, hns⟩ := hv.gen
  have hz := fun x0 x1 x2 x3 x5 w => zz17_walk x0 x1 x2 x3 x5 a ns.length c w
  have HV : Hid (NArg W (.slice a ns.length c) ns) := hv
  have hB0 := Below.refl W.heap.size W
  obtain ⟨n, hnn⟩ : ∃ n, ns.length = n := ⟨_, rfl⟩
  rw [hnn] at hz hns HV ⊢
  clear hv
  by_cases h20 : n ≤ 1048576
  · have hzb : decide (n ≤ 1048576) = true := decide_eq_true h20
    rw [hzb] at hz
    clear hzb
    by_cases h12 : n ≤ 4096
    · by_cases hs1 : 1 ≤ slots
      · obtain ⟨sl, rfl⟩ : ∃ sl : Nat, slots = sl := ⟨slots.toNat, by omega⟩
        have hsn : sl < 9223372036854775808 := by omega
        have hsn1 : 1 ≤ sl := by omega
        clear hsw hs1
        by_cases hr0 : 0 ≤ rounds
        · obtain ⟨rd, rfl⟩ : ∃ rd : Nat, rounds = rd := ⟨rounds.toNat, by omega⟩
          clear hrw hr0
          go_enter Try.func6, Try.ntmps6
          go_wp2_with (go_at_call 17; refine (hz _ _ _ _ _ _).mono ?_; rintro e w1 ⟨rfl, hw⟩; subst w1)
          go_loopw [13] (fun v13 wr => ∃ k : Nat, k ≤ n ∧ v13 = .int .i64 k ∧ (∀ i, i < k → Flt.nan ns[i]!.ra = false ∧ Flt.nan ns[i]!.ua = false) ∧ ∃ q, wr = W.drewN q) (fun v13 _ => n - (intOf v13).toNat)
          case atStart => exact ⟨0, by omega, rfl, fun i hi => absurd hi (Nat.not_lt_zero i), 0, rfl⟩
          case round =>
            obtain ⟨k, hk, rfl, hnan, q, rfl⟩ := hrel
            by_cases hlt : k < n
            · as_aux_lemma =>
                obtain ⟨b, off, rfl, hb, _, _, _, c3, c4, _⟩ := hns k hlt
                have hq : ∀ r, (FloatKind.f64.format.order r r != some Ordering.eq) = Flt.nan r := fun r => by
                  have he := Flt.eq_self r
                  unfold Flt.eq Flt.ord at he
                  unfold bne
                  rw [he, Bool.not_not]
                have hq1 := hq ns[k]!.ra
                have hq2 := hq ns[k]!.ua
                cases hkn : Flt.nan ns[k]!.ra
                · cases hkm : Flt.nan ns[k]!.ua
                  · have HN : Hid (∀ i, i < k + 1 → Flt.nan ns[i]!.ra = false ∧ Flt.nan ns[i]!.ua = false) := fun i hi => by
                      by_cases e : i = k
                      · subst e; exact ⟨hkn, hkm⟩
                      · exact hnan i (by omega)
                    rw [hkn] at hq1
                    rw [hkm] at hq2
                    clear hq hnan hns hkn hkm HV
                    generalize ns[k]!.ra = r at *
                    generalize ns[k]!.ua = u at *
                    go_wp2_with fail
                    go_quiet (fail)
                    go_wp2
                    go_roundw
                    case rel => exact ⟨k + 1, by omega, by go_num, HN.out, _, rfl⟩
                    case measure => simp [intOf]; omega
                  · rw [hkn] at hq1
                    rw [hkm] at hq2
                    clear hq hnan hns hkn hkm HV
                    generalize ns[k]!.ra = r at *
                    generalize ns[k]!.ua = u at *
                    go_wp2_with fail
                    go_quiet (fail)
                    go_wp2
                    go_ret
                    exact ⟨rfl, (((Keep.refl [] W).drewN _).drewN _).below (Nat.le_refl _) (fun k hk => by cases hk)⟩
                · rw [hkn] at hq1
                  clear hq hq2 hnan hns hkn HV
                  generalize ns[k]!.ra = r at *
                  go_wp2_with fail
                  go_quiet (fail)
                  go_wp2
                  go_ret
                  exact ⟨rfl, (((Keep.refl [] W).drewN _).drewN _).below (Nat.le_refl _) (fun k hk => by cases hk)⟩
            · have : k = n := by omega
              subst this
              have HNaN : Hid (∀ i : Nat, Flt.nan ns[i]!.ra = false) := nan_all hnn (fun i hi => (hnan i hi).1)
              have HNaU : Hid (∀ i : Nat, Flt.nan ns[i]!.ua = false) := nanu_all hnn (fun i hi => (hnan i hi).2)
              have hbq : Below W.heap.size W (W.drewN q) := ((Keep.refl [] W).drewN q).below (Nat.le_refl _) (fun k hk => by cases hk)
              have hto := toNb_walk (.slice a k c) ns (by omega) (W.drewN q) (HV.out.below hbq)
              rw [hnn] at hto
              clear hnan hns hz hlt hk hB0
              generalize W.drewN q = wq at *
              go_upto_region 13 with (go_at_call 10; refine hto.mono ?_; rintro e w1 ⟨rfl, hN1, hk1, hT1⟩)
              have H0 : Hid (Set0 W (chk w1 s sl 0 rd) wq.heap.size (w1.heap.size + 2) w1.heap.size (w1.heap.size + 1) sl rd 0 ns s) := set0 hs hbq hN1 hk1 hT1
              have hch := newChoker_walk s sl rd 0 w1
              clear hto hN1 hk1 hT1 hbq
              go_upto_region 14 with (go_at_call 11; refine hch.mono ?_; rintro e w2 ⟨rfl, hw2⟩; rw [← hw2] at H0; clear hw2)
              generalize w1.heap.size + 2 = bc at *
              generalize w1.heap.size + 1 = br at *
              generalize w1.heap.size = bp at *
              generalize wq.heap.size = B at *
              have hdn := zzSeed_walk w2 bc B bp br W.heap.size sl rd 0 per _ _ _ ns s hsn1 hsn (by omega) H0.out.below.size HNaN.out HNaU.out H0.out.ready
              rw [hnn] at hdn
              clear hch
              go_upto_region 15 with (go_at_call 18; refine hdn.mono ?_; rintro e w3 ⟨rfl, hp3⟩; obtain ⟨ms, vo', no', xo', s', hF⟩ := firstS_of H0.out hp3; have HF : Hid (FirstS W w3 B bc bp br sl rd per 0 ns ms s s' vo' no' xo') := hF; clear hF hp3)
              have hmd := sdModel_walk (.slice a k c) ns sl hsn1 hsn s hs rd per w3 (HV.out.below HF.out.1) (by omega)
              rw [hnn] at hmd
              clear hdn
              obtain ⟨i0, hi, hz0, hz1, hz2⟩ := info4_parts
              go_upto_region 16 with (go_at_call 19; refine hmd.mono ?_; rintro e w4 ⟨bu, d, rfl, hdr4, hu4, tu4, hk4⟩; rw [← hnn] at hdr4 hu4; have HS : Hid (SetS W w4 B bc bp br sl rd 0 ns ms s' vo' no' xo' _ bu) := setS_of HF.out hsn1 HNaN.out HNaU.out hdr4 hu4 tu4 hk4; clear hdr4 hu4 tu4 hk4)
              clear hmd
              generalize List.map (unS ns sl (draws rd per sl (flt (isI ns) ns.length).length) d) (List.range ns.length) = us at *
              have hkd := HS.out.keepsData hnn (by omega) HV.out
              have HM : Hid (∀ w5, SetS W w5 B bc bp br sl rd 0 ns ms s' vo' no' xo' us bu → ∃ w6, (Instr.makeSlice 34 (.int .i64 (k : Nat)) (.int .i64 (k : Nat))).run Try.prog w5 = .ok (.slice (some ⟨w5.heap.size, 0, none⟩) k k) w6 ∧ Set1 W w6 B bc bp br sl rd 0 ns ms s' vo' no' xo' us ((List.range k).map (fun _ => false)) bu w5.heap.size) := fun w5 h5 => by
                obtain ⟨w6, e6, o6, g6⟩ := run_make_full (P := Try.prog) w5 W.heap.size 34 4 i0 (.bool false) 1 Try.underlying34 hi hz0 hz1 .i64 .i64 k (by rw [hz2]; omega) (by unfold maxLen; omega) h5.below.size
                exact ⟨w6, e6, h5.none hnn o6 g6⟩
              go_wp2_with (first | (go_at_call 14; refine hkd.mono ?_; rintro e w5 ⟨rfl, hS5⟩; obtain ⟨w6, hrun6, hS6⟩ := HM.out w5 hS5; have hfa := hS6.flagsAre hnn (by omega) k k; clear hS5 hS6) | (go_at_call 15; refine hfa.mono ?_; rintro e w7 ⟨rfl, hS7⟩; have hfin := hS7.below; clear hS7))
              go_ret
              exact ⟨rfl, hfin⟩
        · clear hrw hns
          go_enter Try.func6, Try.ntmps6
          go_wp2_with (go_at_call 17; refine (hz _ _ _ _ _ _).mono ?_; rintro e w1 ⟨rfl, hw⟩; subst w1)
          go_ret
          exact ⟨rfl, hB0⟩
      · have hs2 : slots < 1 := by omega
        by_cases hsm : 0 ≤ slots
        · obtain rfl : slots = 0 := by omega
          clear hsw hs1 hs2 hsm hns hrw
          go_enter Try.func6, Try.ntmps6
          go_wp2_with (go_at_call 17; refine (hz _ _ _ _ _ _).mono ?_; rintro e w1 ⟨rfl, hw⟩; subst w1)
          go_ret
          exact ⟨rfl, hB0⟩
        · clear hsw hs1 hsm hns hrw
          go_enter Try.func6, Try.ntmps6
          go_wp2_with (go_at_call 17; refine (hz _ _ _ _ _ _).mono ?_; rintro e w1 ⟨rfl, hw⟩; subst w1)
          go_ret
          exact ⟨rfl, hB0⟩
    · clear hsw hns hrw
      go_enter Try.func6, Try.ntmps6
      go_wp2_with (go_at_call 17; refine (hz _ _ _ _ _ _).mono ?_; rintro e w1 ⟨rfl, hw⟩; subst w1)
      go_ret
      exact ⟨rfl, hB0⟩
  · have hzb : decide (n ≤ 1048576) = false := decide_eq_false h20
    rw [hzb] at hz
    clear hzb hsw hns hrw
    go_enter Try.func6, Try.ntmps6
    go_wp2_with (go_at_call 17; refine (hz _ _ _ _ _ _).mono ?_; rintro e w1 ⟨rfl, hw⟩; subst w1)
    go_ret
    exact ⟨rfl, hB0⟩

set_option maxHeartbeats 10000000 in
set_option maxRecDepth 100000 in
theorem law7_walk (slots rounds : Int) (hsw : slots < 9223372036854775808) (hrw : rounds < 9223372036854775808) (s : Nat × Nat) (hs : s.2 < 18446744073709551616) (per : Bool) (v : Value) (ns : List N) (W : World) (hv : NArg W v ns) :
    Calls Try.prog 7 #[.int .i64 slots, .int .u64 s.1, .int .u64 s.2, .int .i64 rounds, v, .bool per] W fun e w' => e = .returned (.bool true) ∧ Below W.heap.size W w' := by
  obtain ⟨a, c, rfl, hns⟩ := hv.gen
  have hz := fun x0 x1 x2 x3 x5 w => zz20_walk x0 x1 x2 x3 x5 a ns.length c w
  have HV : Hid (NArg W (.slice a ns.length c) ns) := hv
  have hB0 := Below.refl W.heap.size W
  obtain ⟨n, hnn⟩ : ∃ n, ns.length = n := ⟨_, rfl⟩
  rw [hnn] at hz hns HV ⊢
  clear hv
  by_cases h20 : n ≤ 1048576
  · have hzb : decide (n ≤ 1048576) = true := decide_eq_true h20
    rw [hzb] at hz
    clear hzb
    by_cases h12 : n ≤ 4096
    · by_cases hs1 : 1 ≤ slots
      · obtain ⟨sl, rfl⟩ : ∃ sl : Nat, slots = sl := ⟨slots.toNat, by omega⟩
        have hsn : sl < 9223372036854775808 := by omega
        have hsn1 : 1 ≤ sl := by omega
        clear hsw hs1
        by_cases hr0 : 0 ≤ rounds
        · obtain ⟨rd, rfl⟩ : ∃ rd : Nat, rounds = rd := ⟨rounds.toNat, by omega⟩
          clear hrw hr0
          go_enter Try.func7, Try.ntmps7
          go_wp2_with (go_at_call 20; refine (hz _ _ _ _ _ _).mono ?_; rintro e w1 ⟨rfl, hw⟩; subst w1)
          go_loopw [13] (fun v13 wr => ∃ k : Nat, k ≤ n ∧ v13 = .int .i64 k ∧ (∀ i, i < k → Flt.nan ns[i]!.ra = false ∧ Flt.nan ns[i]!.ua = false) ∧ ∃ q, wr = W.drewN q) (fun v13 _ => n - (intOf v13).toNat)
          case atStart => exact ⟨0, by omega, rfl, fun i hi => absurd hi (Nat.not_lt_zero i), 0, rfl⟩
          case round =>
            obtain ⟨k, hk, rfl, hnan, q, rfl⟩ := hrel
            by_cases hlt : k < n
            · as_aux_lemma =>
                obtain ⟨b, off, rfl, hb, _, _, _, c3, c4, _⟩ := hns k hlt
                have hq : ∀ r, (FloatKind.f64.format.order r r != some Ordering.eq) = Flt.nan r := fun r => by
                  have he := Flt.eq_self r
                  unfold Flt.eq Flt.ord at he
                  unfold bne
                  rw [he, Bool.not_not]
                have hq1 := hq ns[k]!.ra
                have hq2 := hq ns[k]!.ua
                cases hkn : Flt.nan ns[k]!.ra
                · cases hkm : Flt.nan ns[k]!.ua
                  · have HN : Hid (∀ i, i < k + 1 → Flt.nan ns[i]!.ra = false ∧ Flt.nan ns[i]!.ua = false) := fun i hi => by
                      by_cases e : i = k
                      · subst e; exact ⟨hkn, hkm⟩
                      · exact hnan i (by omega)
                    rw [hkn] at hq1
                    rw [hkm] at hq2
                    clear hq hnan hns hkn hkm HV
                    generalize ns[k]!.ra = r at *
                    generalize ns[k]!.ua = u at *
                    go_wp2_with fail
                    go_quiet (fail)
                    go_wp2
                    go_roundw
                    case rel => exact ⟨k + 1, by omega, by go_num, HN.out, _, rfl⟩
                    case measure => simp [intOf]; omega
                  · rw [hkn] at hq1
                    rw [hkm] at hq2
                    clear hq hnan hns hkn hkm HV
                    generalize ns[k]!.ra = r at *
                    generalize ns[k]!.ua = u at *
                    go_wp2_with fail
                    go_quiet (fail)
                    go_wp2
                    go_ret
                    exact ⟨rfl, (((Keep.refl [] W).drewN _).drewN _).below (Nat.le_refl _) (fun k hk => by cases hk)⟩
                · rw [hkn] at hq1
                  clear hq hq2 hnan hns hkn HV
                  generalize ns[k]!.ra = r at *
                  go_wp2_with fail
                  go_quiet (fail)
                  go_wp2
                  go_ret
                  exact ⟨rfl, (((Keep.refl [] W).drewN _).drewN _).below (Nat.le_refl _) (fun k hk => by cases hk)⟩
            · have : k = n := by omega
              subst this
              have HNaN : Hid (∀ i : Nat, Flt.nan ns[i]!.ra = false) := nan_all hnn (fun i hi => (hnan i hi).1)
              have HNaU : Hid (∀ i : Nat, Flt.nan ns[i]!.ua = false) := nanu_all hnn (fun i hi => (hnan i hi).2)
              have hbq : Below W.heap.size W (W.drewN q) := ((Keep.refl [] W).drewN q).below (Nat.le_refl _) (fun k hk => by cases hk)
              have hto := toNb_walk (.slice a k c) ns (by omega) (W.drewN q) (HV.out.below hbq)
              rw [hnn] at hto
              clear hnan hns hz hlt hk hB0
              generalize W.drewN q = wq at *
              go_upto_region 13 with (go_at_call 10; refine hto.mono ?_; rintro e w1 ⟨rfl, hN1, hk1, hT1⟩)
              have H0 : Hid (Set0 W (chk w1 s sl 0 rd) wq.heap.size (w1.heap.size + 2) w1.heap.size (w1.heap.size + 1) sl rd 0 ns s) := set0 hs hbq hN1 hk1 hT1
              have hch := newChoker_walk s sl rd 0 w1
              clear hto hN1 hk1 hT1 hbq
              go_upto_region 14 with (go_at_call 11; refine hch.mono ?_; rintro e w2 ⟨rfl, hw2⟩; rw [← hw2] at H0; clear hw2)
              generalize w1.heap.size + 2 = bc at *
              generalize w1.heap.size + 1 = br at *
              generalize w1.heap.size = bp at *
              generalize wq.heap.size = B at *
              have hdn := zzSeed_walk w2 bc B bp br W.heap.size sl rd 0 per _ _ _ ns s hsn1 hsn (by omega) H0.out.below.size HNaN.out HNaU.out H0.out.ready
              rw [hnn] at hdn
              clear hch
              go_upto_region 15 with (go_at_call 18; refine hdn.mono ?_; rintro e w3 ⟨rfl, hp3⟩; obtain ⟨ms, vo', no', xo', s', hF⟩ := firstS_of H0.out hp3; have HF : Hid (FirstS W w3 B bc bp br sl rd per 0 ns ms s s' vo' no' xo') := hF; clear hF hp3)
              have hmd := sdModel_walk (.slice a k c) ns sl hsn1 hsn s hs rd per w3 (HV.out.below HF.out.1) (by omega)
              rw [hnn] at hmd
              clear hdn
              obtain ⟨i0, hi, hz0, hz1, hz2⟩ := info4_parts
              go_upto_region 16 with (go_at_call 19; refine hmd.mono ?_; rintro e w4 ⟨bu, d, rfl, hdr4, hu4, tu4, hk4⟩; rw [← hnn] at hdr4 hu4; have HS : Hid (SetS W w4 B bc bp br sl rd 0 ns ms s' vo' no' xo' _ bu) := setS_of HF.out hsn1 HNaN.out HNaU.out hdr4 hu4 tu4 hk4; clear hdr4 hu4 tu4 hk4)
              clear hmd
              generalize List.map (unS ns sl (draws rd per sl (flt (isI ns) ns.length).length) d) (List.range ns.length) = us at *
              have hB : W.heap.size ≤ B := H0.out.hB
              have hbc : W.heap.size ≤ bc := H0.out.hbc
              have hbp : W.heap.size ≤ bp := H0.out.hbp
              go_upto_region 17 with (at_make; refine wpList_make_full _ rfl _ _ 34 rfl W.heap.size 4 i0 _ 1 Try.underlying34 hi hz0 hz1 _ _ _ _ k rfl rfl rfl rfl (by rw [hz2]; omega) (by unfold maxLen; omega) HS.out.below.size ?_; intro w5 hown hgr)
              have H5 : Hid (Set1 W w5 B bc bp br sl rd 0 ns ms s' vo' no' xo' us ((List.range k).map (fun _ => false)) bu w4.heap.size) := HS.out.none hnn hown hgr
              clear hown hgr
              generalize List.map (fun _ => false) (List.range k) = os at *
              generalize w4.heap.size = bo at *
              have hkd := H5.out.keepsData hnn (by omega) HV.out
              go_upto_region 19 with (first | (go_at_call 14; refine hkd.mono ?_; rintro e w6 ⟨rfl, hS6⟩; have hfa := hS6.flagsAre hnn (by omega) k k; clear hS6) | (go_at_call 15; refine hfa.mono ?_; rintro e w7 ⟨rfl, hS7⟩; have HS7 : Hid (Set1 W w7 B bc bp br sl rd 0 ns ms s' vo' no' xo' us os bu bo) := hS7; clear hS7))
              have hmn : ∀ i : Nat, Flt.nan ms[i]!.ra = false := nan_all HS7.out.len (fun i hi => by rw [(HS7.out.same i hi).2.2.1]; exact HNaN.out i)
              have hmu : ∀ i : Nat, Flt.nan ms[i]!.ua = false := nanu_all HS7.out.len (fun i hi => by rw [(HS7.out.same i hi).2.1]; exact HNaU.out i)
              have hd2 := zzSeed_walk w7 bc B bp br W.heap.size sl rd 0 false _ _ _ ms s' hsn1 hsn (by rw [HS7.out.len]; omega) HS7.out.below.size hmn hmu HS7.out.ready
              rw [HS7.out.len, hnn] at hd2
              clear hmn hmu hkd
              go_upto_region 20 with (go_at_call 18; refine hd2.mono ?_; rintro e w8 ⟨rfl, hp8⟩; obtain ⟨ms2, s2, vo2, no2, xo2, hS8⟩ := set1_quiet HNaN.out HNaU.out hsn1 HF.out.2.1 HS7.out hB hbc hbp hp8; have HS8 : Hid (Set1 W w8 B bc bp br sl rd 0 ns ms2 s2 vo2 no2 xo2 us os bu bo) := hS8; clear hS8 hp8)
              have hkd2 := HS8.out.keepsData hnn (by omega) HV.out
              clear hd2
              go_wp2_with (first | (go_at_call 14; refine hkd2.mono ?_; rintro e w9 ⟨rfl, hS9⟩; have hfa2 := hS9.flagsAre hnn (by omega) k k; clear hS9) | (go_at_call 15; refine hfa2.mono ?_; rintro e wz ⟨rfl, hSz⟩; have hfin := hSz.below; clear hSz))
              go_ret
              exact ⟨rfl, hfin⟩
        · clear hrw hns
          go_enter Try.func7, Try.ntmps7
          go_wp2_with (go_at_call 20; refine (hz _ _ _ _ _ _).mono ?_; rintro e w1 ⟨rfl, hw⟩; subst w1)
          go_ret
          exact ⟨rfl, hB0⟩
      · have hs2 : slots < 1 := by omega
        by_cases hsm : 0 ≤ slots
        · obtain rfl : slots = 0 := by omega
          clear hsw hs1 hs2 hsm hns hrw
          go_enter Try.func7, Try.ntmps7
          go_wp2_with (go_at_call 20; refine (hz _ _ _ _ _ _).mono ?_; rintro e w1 ⟨rfl, hw⟩; subst w1)
          go_ret
          exact ⟨rfl, hB0⟩
        · clear hsw hs1 hsm hns hrw
          go_enter Try.func7, Try.ntmps7
          go_wp2_with (go_at_call 20; refine (hz _ _ _ _ _ _).mono ?_; rintro e w1 ⟨rfl, hw⟩; subst w1)
          go_ret
          exact ⟨rfl, hB0⟩
    · clear hsw hns hrw
      go_enter Try.func7, Try.ntmps7
      go_wp2_with (go_at_call 20; refine (hz _ _ _ _ _ _).mono ?_; rintro e w1 ⟨rfl, hw⟩; subst w1)
      go_ret
      exact ⟨rfl, hB0⟩
  · have hzb : decide (n ≤ 1048576) = false := decide_eq_false h20
    rw [hzb] at hz
    clear hzb hsw hns hrw
    go_enter Try.func7, Try.ntmps7
    go_wp2_with (go_at_call 20; refine (hz _ _ _ _ _ _).mono ?_; rintro e w1 ⟨rfl, hw⟩; subst w1)
    go_ret
    exact ⟨rfl, hB0⟩

end Go.Proofs.Qxb6612885a
