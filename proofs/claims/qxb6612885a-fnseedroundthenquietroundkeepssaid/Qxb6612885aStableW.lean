/-
  The walk of sort.stable_func; sort.SliceStable's contract: the stable order, whatever the length.
-/
import Derived.Test.Qxb6612885aSymR
namespace Go.Proofs.Qxb6612885a
open Go.Shelf Go.RowKit Go.Lib Go.Sort
variable {α : Type} [Inhabited α]

theorem size_insInner (lt : α → α → Bool) (a : Nat) : ∀ (j : Nat) (d : Array α), (insInner lt a j d).size = d.size
  | 0, d => by unfold insInner; rfl
  | j + 1, d => by
    unfold insInner
    split
    · rw [size_insInner, size_swp]
    · rfl

set_option maxRecDepth 100000 in
set_option maxHeartbeats 2000000 in
/-- sort.insertionSort_func -/
theorem insertion_walk (enc : α → Value) (lt : α → α → Bool) (g : Nat) (lb : Array Value) (sf : Nat) (sb : Array Value) (blk off : Nat) (d : Array α) (W : World)
    (C : Ctx enc lt g lb sf sb blk off d.size W) (hH : Holds enc W blk off d) (a b : Nat) (hab : a ≤ b) (hb : b ≤ d.size) :
    Calls Try.prog 48 #[.agg #[.func (.func g) #[] lb, .func (.func sf) #[] sb], .int .i64 a, .int .i64 b] W fun e w' => e = .returned (.tuple #[]) ∧ Leaves enc W blk off (insertionSort lt d a b) w' := by
  have hC := C.boxed (.func (.func g) #[] lb) (.func (.func sf) #[] sb)
  have hblk := C.blk
  have hsz := C.size
  have hH1 := boxed_holds (.func (.func g) #[] lb) (.func (.func sf) #[] sb) hblk hH
  have hlt := boxed_lt W (.func (.func g) #[] lb) (.func (.func sf) #[] sb)
  have hc0 := boxed_cell0 W (.func (.func g) #[] lb) (.func (.func sf) #[] sb)
  have hc1 := boxed_cell1 W (.func (.func g) #[] lb) (.func (.func sf) #[] sb)
  have hub := fun dk w' (h : Leaves enc (boxed W (.func (.func g) #[] lb) (.func (.func sf) #[] sb)) blk off dk w') => h.unbox hblk
  have HU : Hid _ := hub
  go_enter Try.func48, Try.ntmps48
  go_wp2
  change Code.wp _ _ _ _ (boxed W (.func (.func g) #[] lb) (.func (.func sf) #[] sb))
  generalize boxed W (.func (.func g) #[] lb) (.func (.func sf) #[] sb) = Wb at *
  clear hub hH C
  have hblk1 := hC.blk
  have eg := hC.eg
  have hst0 := Leaves.start hH1
  go_loopw [6] (fun vi wr => ∃ (i : Nat) (dk : Array α), vi = .int .i64 i ∧ a < i ∧ i ≤ b + 1 ∧ dk.size = d.size ∧ Leaves enc Wb blk off dk wr ∧ insOuter lt a b i dk = insOuter lt a b (a + 1) d) (fun vi _ => b + 1 - (intOf vi).toNat)
  case atStart => exact ⟨a + 1, d, by go_num, by omega, by omega, rfl, hst0, rfl⟩
  case round =>
    obtain ⟨i, dk, rfl, hai, hib, hsk, hL, hO⟩ := hrel
    have HO : Hid (insOuter lt a b i dk = insOuter lt a b (a + 1) d) := hO
    clear hO hst0
    by_cases hib2 : i < b
    · go_wp2
      go_loopw [7] (fun vj wr2 => ∃ (j : Nat) (dj : Array α), vj = .int .i64 j ∧ a ≤ j ∧ j ≤ i ∧ dj.size = d.size ∧ Leaves enc Wb blk off dj wr2 ∧ insInner lt a j dj = insInner lt a i dk) (fun vj _ => (intOf vj).toNat)
      case atStart => exact ⟨i, dk, rfl, by omega, Nat.le_refl _, hsk, hL, rfl⟩
      case round =>
        obtain ⟨j, dj, rfl, haj, hji, hsj, hL2, hI⟩ := hrel
        have HI : Hid (insInner lt a j dj = insInner lt a i dk) := hI
        have HSJ : Hid (dj.size = d.size) := hsj
        clear hI hL
        have cc0 : wr.cell? ⟨W.heap.size, 0, none⟩ = some (.func (.func g) #[] lb) := by rw [hL2.cell W.heap.size 0 hlt (by omega)]; exact hc0
        have out : (j ≤ a ∨ lt dj[j]! dj[j - 1]! = false) → ∀ w', Leaves enc Wb blk off dj w' → ∃ (i' : Nat) (dk' : Array α), Value.int .i64 ((i : Int) + 1) = .int .i64 i' ∧ a < i' ∧ i' ≤ b + 1 ∧ dk'.size = d.size ∧ Leaves enc Wb blk off dk' w' ∧ insOuter lt a b i' dk' = insOuter lt a b (a + 1) d := fun hs w' hw =>
          ⟨i + 1, dj, by go_num, by omega, by omega, hsj, hw, by rw [← HO.out, insOuter_go _ _ _ _ _ hib2, ← HI.out, insInner_stop _ _ _ _ hs]⟩
        have OUT : Hid _ := out
        clear out hsj
        by_cases hja : a < j
        · have hl := hC.less dj wr HSJ.out hL2 j ((j : Int) - 1) j (j - 1) rfl (by omega) (by omega) (by omega)
          cases hlv : lt dj[j]! dj[j - 1]! with
          | true =>
            rw [hlv] at hl
            have HLV : Hid (lt dj[j]! dj[j - 1]! = true) := hlv
            have hsw : ∀ w2, Leaves enc Wb blk off dj w2 → w2.cell? ⟨W.heap.size, 1, none⟩ = some (.func (.func sf) #[] sb) ∧ (callFunc sf (#[.int .i64 (j : Int), .int .i64 ((j : Int) - 1)] ++ sb)).run Try.prog w2 = .ok (.value (.tuple #[])) ((w2.setCell ⟨blk, off + j, none⟩ (enc dj[j - 1]!)).setCell ⟨blk, off + (j - 1), none⟩ (enc dj[j]!)) ∧
                Leaves enc Wb blk off (swp dj j (j - 1)) ((w2.setCell ⟨blk, off + j, none⟩ (enc dj[j - 1]!)).setCell ⟨blk, off + (j - 1), none⟩ (enc dj[j]!)) := fun w2 h2 =>
              ⟨by rw [h2.cell W.heap.size 1 hlt (by omega)]; exact hc1, by have := hC.swap w2 dj (h2.holds hblk1 hH1 HSJ.out) HSJ.out j (j - 1) (by omega) (by omega); rwa [show ((j - 1 : Nat) : Int) = (j : Int) - 1 by omega] at this,
                h2.swap hblk1 j (j - 1) (by rw [HSJ.out]; omega) (by rw [HSJ.out]; omega)⟩
            have HSW : Hid _ := hsw
            clear hsw hc0 hc1 hlv hC hH1
            go_wp2_with (go_at_fn g; refine hl.mono ?_; rintro e w2 ⟨rfl, hq⟩; obtain ⟨cc1, hs, hL3⟩ := HSW.out _ (Leaves.trans hblk1 hL2 hq rfl); have HL3 := (show Hid _ from hL3); clear hL3)
            go_roundw
            case rel =>
              first
              | exact ⟨j - 1, swp dj j (j - 1), by go_num, by omega, by omega, by rw [size_swp, HSJ.out], HL3.out, by rw [← HI.out, insInner_go lt a j dj hja HLV.out]⟩
              | ((repeat apply Exists.intro)
                 refine ⟨⟨j - 1, swp dj j (j - 1), by congr 1 <;> omega, by omega, by omega, by rw [size_swp, HSJ.out], HL3.out, by rw [← HI.out, insInner_go lt a j dj hja HLV.out]⟩, by rw [show ((j - 1 : Nat) : Int) = (j : Int) - 1 by omega]⟩)
            case measure => simp [intOf]; omega
          | false =>
            rw [hlv] at hl
            have HLV : Hid (lt dj[j]! dj[j - 1]! = false) := hlv
            clear hlv hc0 hc1
            go_wp2_with (go_at_fn g; refine hl.mono ?_; rintro e w2 ⟨rfl, hq⟩)
            go_roundw
            case rel => exact OUT.out (Or.inr HLV.out) _ (hL2.trans hblk1 hq rfl)
            case measure => simp [intOf]; omega
        · go_wp2
          go_roundw
          case rel => exact OUT.out (Or.inl (by omega)) _ hL2
          case measure => simp [intOf]; omega
    · go_wp2
      go_end0
      refine ⟨rfl, HU.out _ _ ?_⟩
      have e : insertionSort lt d a b = dk := by unfold insertionSort; rw [← HO.out, insOuter_stop _ _ _ _ _ hib2]
      rw [e]
      exact hL

set_option maxRecDepth 100000 in
set_option maxHeartbeats 4000000 in
/-- sort.stable_func -/
theorem stable_walk (enc : α → Value) (lt le : α → α → Bool) (B : α → α → Prop) (hO : SWO le) (hB : ∀ x y, B x y → lt y x = le y x) (g : Nat) (lb : Array Value) (sf : Nat) (sb : Array Value) (blk off : Nat) (d : Array α) (W : World)
    (C : Ctx enc lt g lb sf sb blk off d.size W) (hH : Holds enc W blk off d) (hord : ∀ i j, i < j → j < d.size → B d[i]! d[j]!) :
    Calls Try.prog 36 #[.agg #[.func (.func g) #[] lb, .func (.func sf) #[] sb], .int .i64 d.size] W fun e w' => e = .returned (.tuple #[]) ∧ ∃ d', PermIn 0 d.size d d' ∧ SortedIn le 0 d.size d' ∧ Leaves enc W blk off d' w' := by
  have hC := C.boxed (.func (.func g) #[] lb) (.func (.func sf) #[] sb)
  have hblk := C.blk
  have hsz := C.size
  have hH1 := boxed_holds (.func (.func g) #[] lb) (.func (.func sf) #[] sb) hblk hH
  have hlt := boxed_lt W (.func (.func g) #[] lb) (.func (.func sf) #[] sb)
  have hc0 := boxed_cell0 W (.func (.func g) #[] lb) (.func (.func sf) #[] sb)
  have hc1 := boxed_cell1 W (.func (.func g) #[] lb) (.func (.func sf) #[] sb)
  have hub := fun dk w' (h : Leaves enc (boxed W (.func (.func g) #[] lb) (.func (.func sf) #[] sb)) blk off dk w') => h.unbox hblk
  have HU : Hid _ := hub
  generalize hn : d.size = n at *
  have HN : Hid (d.size = n) := hn
  have HB : Hid (∀ x y, B x y → lt y x = le y x) := hB
  have HORD : Hid _ := hord
  clear hn hB hord
  go_enter Try.func36, Try.ntmps36
  go_wp2
  change Code.wp _ _ _ _ (boxed W (.func (.func g) #[] lb) (.func (.func sf) #[] sb))
  generalize boxed W (.func (.func g) #[] lb) (.func (.func sf) #[] sb) = Wb at *
  clear hub hH C
  have hblk1 := hC.blk
  have hat : ∀ dk w', dk.size = n → Leaves enc Wb blk off dk w' → Ctx enc lt g lb sf sb blk off dk.size w' ∧ Holds enc w' blk off dk ∧ w'.cell? ⟨W.heap.size, 0, none⟩ = some (.func (.func g) #[] lb) ∧ w'.cell? ⟨W.heap.size, 1, none⟩ = some (.func (.func sf) #[] sb) := fun dk w' hs h =>
    ⟨by rw [hs]; exact hC.on h hs, h.holds hblk1 hH1 (by rw [hs, HN.out]), by rw [h.cell W.heap.size 0 hlt (by omega)]; exact hc0, by rw [h.cell W.heap.size 1 hlt (by omega)]; exact hc1⟩
  have HAT : Hid _ := hat
  have hst0 := Leaves.start hH1
  clear hat hc0 hc1
  go_loopw [5, 6] (fun va vb wr => ∃ (a : Nat) (dk : Array α), va = .int .i64 a ∧ vb = .int .i64 ((a : Int) + 20) ∧ Pre le B n a d dk ∧ Leaves enc Wb blk off dk wr) (fun va _ _ => n - (intOf va).toNat)
  case atStart => exact ⟨0, d, rfl, rfl, pre_start HORD.out, hst0⟩
  case round =>
    obtain ⟨a, dk, rfl, rfl, hP, hL⟩ := hrel
    clear hst0
    have hdk : dk.size = n := by rw [hP.perm.1, HN.out]
    obtain ⟨Ck, Hk, k0, k1⟩ := HAT.out dk wr hdk hL
    have han := hP.le_n
    by_cases hlt2 : a + 20 ≤ n
    · have hlt2' : (a : Int) + 20 ≤ n := by omega
      have hI := insertion_walk enc lt g lb sf sb blk off dk wr Ck Hk a (a + 20) (by omega) (by omega)
      rw [Int.natCast_add] at hI
      have hP2 := pre_step hO HB.out hP HN.out hlt2
      have HP2 : Hid _ := hP2
      clear Ck Hk hP hP2
      go_wp2_with (go_at_call 48; refine hI.mono ?_; rintro e w' ⟨rfl, hL2⟩)
      have hs2 : (insertionSort lt dk a (a + 20)).size = dk.size := by have := HP2.out.perm.1; rw [this, HN.out, hdk]
      have hL3 := Leaves.trans hblk1 hL hL2 hs2
      go_roundw
      case rel => exact ⟨a + 20, _, by go_num, by go_num, HP2.out, hL3⟩
      case measure => simp [intOf]; omega
    · have hlt2' : ¬ (a : Int) + 20 ≤ n := by omega
      have hI := insertion_walk enc lt g lb sf sb blk off dk wr Ck Hk a n han (by omega)
      have hP2 := pre_end hO HB.out hP HN.out (by omega)
      have HP2 : Hid _ := hP2
      clear Ck Hk hP hP2
      go_wp2_with (go_at_call 48; refine hI.mono ?_; rintro e w' ⟨rfl, hL2⟩)
      have hs2 : (insertionSort lt dk a n).size = dk.size := by have := HP2.out.perm.1; rw [this, HN.out, hdk]
      have hL3 := Leaves.trans hblk1 hL hL2 hs2
      clear hL hL2 k0 k1 hI
      go_loopw [4] (fun vs wr => ∃ (s : Nat) (dk : Array α), vs = .int .i64 s ∧ 20 ≤ s ∧ s ≤ 9223372036854775807 ∧ Inv le B n s d dk ∧ Leaves enc Wb blk off dk wr) (fun vs _ => n - (intOf vs).toNat)
      case atStart => exact ⟨20, _, rfl, Nat.le_refl _, by omega, HP2.out, hL3⟩
      case round =>
        obtain ⟨s, dk2, rfl, hs20, hsb, hI2, hL4⟩ := hrel
        clear hL3
        by_cases hsn : s < n
        · have hM0 := mid_start hI2
          clear hI2
          go_wp2
          go_loopw [5, 6] (fun va vb wr => ∃ (a : Nat) (dk : Array α), va = .int .i64 a ∧ vb = .int .i64 ((a : Int) + 2 * s) ∧ Mid le B n s a d dk ∧ Leaves enc Wb blk off dk wr) (fun va _ _ => n - (intOf va).toNat)
          case atStart => exact ⟨0, dk2, rfl, by go_num, hM0, hL4⟩
          case round =>
            obtain ⟨a2, dk3, rfl, rfl, hM, hL5⟩ := hrel
            clear hM0 hL4
            have hdk3 : dk3.size = n := by rw [hM.perm.1, HN.out]
            obtain ⟨Ck, Hk, k0, k1⟩ := HAT.out dk3 wr hdk3 hL5
            have han2 := hM.le_n
            have hCn : Ctx enc lt g lb sf sb blk off n wr := by rw [← hdk3]; exact Ck
            clear Ck
            by_cases hlt4 : a2 + 2 * s ≤ n
            · have hlt4' : (a2 : Int) + 2 * s ≤ n := by omega
              have hS := symMerge_walk enc lt g lb sf sb blk off n (2 * s) dk3 wr hdk3 hCn Hk a2 (a2 + s) (a2 + 2 * s) (by omega) (by omega) (by omega) hlt4
              rw [Int.natCast_add, Int.natCast_add, Int.natCast_mul] at hS
              have hM2 := mid_step hO HB.out hM HN.out (by omega) (f := 2 * s) hlt4 (Nat.le_refl _)
              have HM2 : Hid _ := hM2
              clear hM hM2 Hk hCn
              go_wp2_with (go_at_call 49; refine hS.mono ?_; rintro e w' ⟨rfl, hL6⟩)
              have hL7 := Leaves.trans hblk1 hL5 hL6 (size_symMerge _ _ _ _ _ _)
              go_roundw
              case rel => exact ⟨a2 + 2 * s, _, by go_num, by go_num, HM2.out, hL7⟩
              case measure => simp [intOf]; omega
            · have hlt4' : ¬ (a2 : Int) + 2 * s ≤ n := by omega
              by_cases hlt5 : a2 + s < n
              · have hlt5' : (a2 : Int) + s < n := by omega
                have hS := symMerge_walk enc lt g lb sf sb blk off n (n - a2) dk3 wr hdk3 hCn Hk a2 (a2 + s) n (by omega) (by omega) (by omega) (Nat.le_refl _)
                rw [Int.natCast_add] at hS
                have hM2 := mid_end1 hO HB.out hM HN.out (by omega) (f := n - a2) (by omega) hlt5 (Nat.le_refl _)
                have HM2 : Hid _ := hM2
                clear hM hM2 Hk hCn
                go_wp2_with (go_at_call 49; refine hS.mono ?_; rintro e w' ⟨rfl, hL6⟩)
                have hL7 := Leaves.trans hblk1 hL5 hL6 (size_symMerge _ _ _ _ _ _)
                go_roundw
                case rel => exact ⟨2 * s, _, by go_num, by omega, by omega, HM2.out, hL7⟩
                case measure => simp [intOf]; omega
              · have hlt5' : ¬ (a2 : Int) + s < n := by omega
                have hM2 := mid_end2 hM (by omega)
                have HM2 : Hid _ := hM2
                clear hM hM2 Hk hCn
                go_wp2
                go_roundw
                case rel => exact ⟨2 * s, _, by go_num, by omega, by omega, HM2.out, hL5⟩
                case measure => simp [intOf]; omega
        · have hE := inv_end hI2 (by omega)
          clear hI2
          go_wp2
          go_end0
          exact ⟨rfl, dk2, hE.1, hE.2, HU.out _ _ hL4⟩

/-! ### sort.SliceStable at []int -/
theorem info47 : (Try.prog.info? 47).map (fun i => i.desc) = some (.slice 3) := by kernel_rfl
theorem info3 : (Try.prog.info? 3).map (fun i => (i.hasPointers, i.bytes, i.size)) = some (false, 8, 1) := by kernel_rfl
theorem siK (n : Nat) (ie : TypeInfo) (a : ie.hasPointers = false) (b : ie.bytes = 8) (h2 : 2 ≤ n) : Lib.swapperK n ie 2 = 5 := by
  have c : (n == 0) = false := by simp; omega
  have d : (n == 1) = false := by simp; omega
  simp [Lib.swapperK, a, b, c, d]

set_option maxHeartbeats 1000000 in
theorem sliceStable_many (encN : α → Value) (h1 : ∀ x, (encN x).oneCell' = true) (lt le : α → α → Bool) (B : α → α → Prop) (hO : SWO le) (hB : ∀ x y, B x y → lt y x = le y x) (g : Nat) (lb : Array Value) (eg : ∀ args w, (callFunc g args).run Try.prog w = .ok (.enter g args) w)
    (blk off c : Nat) (d : Array α) (h2 : 2 ≤ d.size) (hsz : d.size < 4611686018427387904) (w : World) (hless : LessG encN lt g lb blk off d.size w) (hH : Holds encN w blk off d) (hblk : blk < w.heap.size) (hord : ∀ i j, i < j → j < d.size → B d[i]! d[j]!) :
    Calls Try.prog 30 #[.iface 47 (.slice (some ⟨blk, off, none⟩) d.size c), .func (.func g) #[] lb] w fun e w' => e = .returned (.tuple #[]) ∧ ∃ d', PermIn 0 d.size d d' ∧ SortedIn le 0 d.size d' ∧ Leaves encN w blk off d' w' := by
  obtain ⟨siT, hT1, hT2⟩ := Option.map_eq_some_iff.1 info47
  obtain ⟨siE, hE1, hE2⟩ := Option.map_eq_some_iff.1 info3
  simp only [Prod.mk.injEq] at hE2
  refine Any.sort_SliceStable_of_stable Try.sl8 47 3 siT siE hT1 hT2 (by kernel_rfl) hE1 2 (fun _ => by kernel_rfl) _ d.size c (by omega) 43 (by rw [siK _ _ hE2.1 hE2.2.1 h2]; kernel_rfl) (.func g) #[] lb w _ ?_
  have hS : sliceBound Try.prog 3 siE 2 (some ⟨blk, off, none⟩) d.size c = #[.slice (some ⟨blk, off, none⟩) d.size c, typeHandle Try.prog 3] := by
    unfold sliceBound; rw [if_neg (swapperK_gt _ _ _ h2)]
  have hW : stableWorld Try.prog Try.sl8_ren 47 (some ⟨blk, off, none⟩) d.size c w = grow w #[.cells #[.slice (some ⟨blk, off, none⟩) d.size c] 47, .cells #[.pointer (some ⟨Try.prog.globals.size, 47, none⟩), .pointer (some ⟨w.heap.size, 0, none⟩), .int .u64 151] (Try.sl8_ren.t 36)] := by
    unfold stableWorld; rw [alloc_eq_grow, alloc_eq_grow, grow_grow]; rfl
  generalize (#[.cells #[.slice (some ⟨blk, off, none⟩) d.size c] 47, .cells #[.pointer (some ⟨Try.prog.globals.size, 47, none⟩), .pointer (some ⟨w.heap.size, 0, none⟩), .int .u64 151] (Try.sl8_ren.t 36)] : Array Obj) = os0 at hW
  rw [hS, hW]
  have C : Ctx encN lt g lb 43 #[.slice (some ⟨blk, off, none⟩) d.size c, typeHandle Try.prog 3] blk off d.size (grow w os0) :=
    ⟨eg, hless.grow hblk os0, swapSwaps_of_literal true 43 (fun args W => run_callFunc_extern Try.func43 (by kernel_rfl) (by kernel_rfl) (by kernel_rfl) (e := Extern.ReflectliteSwapper.swap true) (by kernel_rfl) args W) 3 siE hE1 hE2.2.2 (fun _ => by kernel_rfl) encN h1 blk off d.size c,
      by rw [size_grow]; omega, hsz⟩
  refine (stable_walk encN lt le B hO hB g lb 43 _ blk off d (grow w os0) C (holds_grow encN w _ blk off d hblk hH) hord).mono ?_
  rintro e w' ⟨rfl, d', hp, hs, n, os, rfl⟩
  exact ⟨rfl, d', hp, hs, n, os0 ++ os, by unfold sortWorld; rw [ahead_grow, putRow_grow encN (Sort.ahead w n) _ blk off _ hblk, grow_grow]⟩

theorem sliceStable_tiny (p : Option Addr) (n c : Nat) (hn : n ≤ 1) (lf : Fn) (la lb : Array Value) (w : World) :
    Calls Try.prog 30 #[.iface 47 (.slice p n c), .func lf la lb] w fun e w' => e = .returned (.tuple #[]) ∧ ∃ os, w' = grow w os := by
  obtain ⟨siT, hT1, hT2⟩ := Option.map_eq_some_iff.1 info47
  obtain ⟨siE, hE1, hE2⟩ := Option.map_eq_some_iff.1 info3
  rcases Nat.eq_zero_or_pos n with rfl | h
  · exact Any.sort_SliceStable_tiny Try.sl8 47 3 siT siE hT1 hT2 (by kernel_rfl) hE1 2 (fun _ => by kernel_rfl) p 0 c (by omega) 39 (by rw [show Lib.swapperK 0 siE 2 = 1 from rfl]; kernel_rfl) lf la lb w
  · obtain rfl : n = 1 := by omega
    exact Any.sort_SliceStable_tiny Try.sl8 47 3 siT siE hT1 hT2 (by kernel_rfl) hE1 2 (fun _ => by kernel_rfl) p 1 c (by omega) 40 (by rw [show Lib.swapperK 1 siE 2 = 2 from rfl]; kernel_rfl) lf la lb w

end Go.Proofs.Qxb6612885a
