/-
  The walk of sort.symMerge_func, the general case; its recursion.
-/
import Derived.Test.Qxb6612885aSymW
import Derived.Deep.DeepCutAuto
namespace Go.Proofs.Qxb6612885a
open Go.Shelf Go.RowKit Go.Lib Go.Sort
variable {α : Type} [Inhabited α]

theorem size_symMerge (lt : α → α → Bool) : ∀ (f : Nat) (d : Array α) (a m b : Nat), (symMerge lt f d a m b).size = d.size
  | 0, d, _, _, _ => rfl
  | f + 1, d, a, m, b => by
    unfold symMerge
    simp only
    have h1 : ∀ (c : Prop) [Decidable c] (x y : Array α) (n : Nat), x.size = n → y.size = n → (if c then x else y).size = n := fun c _ x y n hx hy => by split; exact hx; exact hy
    refine h1 _ _ _ _ (size_rotate _ _ _ _) (h1 _ _ _ _ (size_rotate _ _ _ _) ?_)
    refine h1 _ _ _ _ ?_ ?_
    · rw [size_symMerge]
      refine h1 _ _ _ _ ?_ (h1 _ _ _ _ (size_rotate _ _ _ _) rfl)
      rw [size_symMerge]
      exact h1 _ _ _ _ (size_rotate _ _ _ _) rfl
    · refine h1 _ _ _ _ ?_ (h1 _ _ _ _ (size_rotate _ _ _ _) rfl)
      rw [size_symMerge]
      exact h1 _ _ _ _ (size_rotate _ _ _ _) rfl

set_option maxRecDepth 100000 in
set_option maxHeartbeats 4000000 in
/-- symMerge_func where both sides hold two elements or more: out of the contract of the shorter merges -/
theorem symMerge_rest (enc : α → Value) (lt : α → α → Bool) (g : Nat) (lb : Array Value) (sf : Nat) (sb : Array Value) (blk off : Nat) (d : Array α) (W : World) (F : Nat)
    (ih : Hid (∀ (d' : Array α) (W' : World), d'.size = d.size → Ctx enc lt g lb sf sb blk off d.size W' → Holds enc W' blk off d' → ∀ (a m b : Nat), b - a ≤ F → a < m → m < b → b ≤ d.size →
      Calls Try.prog 49 #[.agg #[.func (.func g) #[] lb, .func (.func sf) #[] sb], .int .i64 a, .int .i64 m, .int .i64 b] W' fun e w' => e = .returned (.tuple #[]) ∧ Leaves enc W' blk off (symMerge lt F d' a m b) w'))
    (C : Ctx enc lt g lb sf sb blk off d.size W) (hH : Holds enc W blk off d) (a m b mid s0 r0 st en : Nat) (d1 d2 d3 : Array α) (ham : a + 2 ≤ m) (hmb : m + 2 ≤ b) (hb : b ≤ d.size) (hF : b - a ≤ F + 1) (hmid : mid = (a + b) / 2)
    (hs0 : s0 = if mid < m then mid + m - b else a) (hr0 : r0 = if mid < m then mid else m) (hst : st = bs (fun c => !lt d[mid + m - 1 - c]! d[c]!) (r0 - s0) s0 r0) (hen : en = mid + m - st)
    (hd1 : d1 = if st < m ∧ m < en then rotate d st m en else d) (hd2 : d2 = if a < st ∧ st < mid then symMerge lt F d1 a st mid else d1) (hd3 : d3 = if mid < en ∧ en < b then symMerge lt F d2 mid en b else d2) :
    Calls Try.prog 49 #[.agg #[.func (.func g) #[] lb, .func (.func sf) #[] sb], .int .i64 a, .int .i64 m, .int .i64 b] W fun e w' => e = .returned (.tuple #[]) ∧ Leaves enc W blk off d3 w' := by
  have hC := C.boxed (.func (.func g) #[] lb) (.func (.func sf) #[] sb)
  have hblk := C.blk
  have hsz := C.size
  have hH1 := boxed_holds (.func (.func g) #[] lb) (.func (.func sf) #[] sb) hblk hH
  have hlt := boxed_lt W (.func (.func g) #[] lb) (.func (.func sf) #[] sb)
  have hc0 := boxed_cell0 W (.func (.func g) #[] lb) (.func (.func sf) #[] sb)
  have hc1 := boxed_cell1 W (.func (.func g) #[] lb) (.func (.func sf) #[] sb)
  have hub := fun dk w' (h : Leaves enc (boxed W (.func (.func g) #[] lb) (.func (.func sf) #[] sb)) blk off dk w') => h.unbox hblk
  have HU : Hid _ := hub
  have h1 : ((m : Int) - a == 1) = false := by simp; omega
  have h2 : ((b : Int) - m == 1) = false := by simp; omega
  have em : ((a : Int) + b) / 2 = mid := by omega
  have hmid1 : a < mid := by omega
  have hmid2 : mid < b := by omega
  have hs0b : a ≤ s0 ∧ s0 ≤ r0 ∧ r0 ≤ m ∧ r0 ≤ mid := by subst hs0 hr0; split <;> omega
  have hinR : ∀ c, s0 ≤ c → c < r0 → m ≤ mid + m - 1 - c ∧ mid + m - 1 - c < b := fun c h1 h2 => by subst hs0 hr0; split at h1 <;> split at h2 <;> omega
  have hstb : s0 ≤ st ∧ st ≤ r0 := by rw [hst]; exact bs_range _ _ _ _ hs0b.2.1
  have hen1 : m ≤ en ∧ en ≤ b ∧ mid ≤ en := by
    have e1 := hs0
    have e2 := hr0
    split at e1 <;> split at e2 <;> omega
  have HS0 : Hid _ := hs0
  have HR0 : Hid _ := hr0
  have HST : Hid _ := hst
  have HEN : Hid _ := hen
  have HD1 : Hid _ := hd1
  have HD2 : Hid _ := hd2
  have HD3 : Hid _ := hd3
  have EM : Hid (((a : Int) + b) / 2 = mid) := em
  have HIR : Hid _ := hinR
  clear hs0 hr0 hst hen hd1 hd2 hd3 hmid hinR
  go_enter Try.func49, Try.ntmps49
  go_upto_if 106 with fail
  go_cut [18, 19] (fun x y wx => x = .int .i64 s0 ∧ y = .int .i64 r0 ∧ wx = boxed W (.func (.func g) #[] lb) (.func (.func sf) #[] sb))
  case first =>
    by_cases hmm : mid < m
    · go_wp2
      go_meet
      case rel =>
        have e1 := HS0.out
        have e2 := HR0.out
        rw [if_pos hmm] at e1 e2
        refine ⟨?_, ?_, rfl⟩
        · congr 1; omega
        · rw [e2]
    · go_wp2
      go_meet
      case rel =>
        have e1 := HS0.out
        have e2 := HR0.out
        rw [if_neg hmm] at e1 e2
        refine ⟨?_, ?_, rfl⟩
        · rw [e1]
        · rw [e2]
  case rest =>
    obtain ⟨rfl, rfl, hwc⟩ := hcut
    subst hwc
    generalize boxed W (.func (.func g) #[] lb) (.func (.func sf) #[] sb) = Wb at *
    clear hub hH C em HS0 HR0
    have hblk1 := hC.blk
    have eg := hC.eg
    obtain ⟨hs1, hs2, hs3, hs4⟩ := hs0b
    go_wp2
    go_loopw [18, 19] (fun vi vj wr => ∃ (i j f : Nat), vi = .int .i64 i ∧ vj = .int .i64 j ∧ s0 ≤ i ∧ i ≤ j ∧ j ≤ r0 ∧ j - i ≤ f ∧ bs (fun c => !lt d[mid + m - 1 - c]! d[c]!) f i j = bs (fun c => !lt d[mid + m - 1 - c]! d[c]!) (r0 - s0) s0 r0 ∧ Leaves enc Wb blk off d wr)
      (fun vi vj _ => (intOf vj).toNat - (intOf vi).toNat)
    case atStart => exact ⟨s0, r0, r0 - s0, rfl, rfl, Nat.le_refl _, hs2, Nat.le_refl _, Nat.le_refl _, rfl, Leaves.start hH1⟩
    case round =>
      obtain ⟨i, j, f, rfl, rfl, hmi, hij, hjb, hf, hbs, hL⟩ := hrel
      have HB : Hid _ := hbs
      clear hbs
      by_cases hlt2 : i < j
      · have cc0 : wr.cell? ⟨W.heap.size, 0, none⟩ = some (.func (.func g) #[] lb) := by rw [hL.cell W.heap.size 0 hlt (by omega)]; exact hc0
        have hin := HIR.out ((i + j) / 2) (by omega) (by omega)
        have hl := hC.less d wr rfl hL ((mid : Int) + m - 1 - ((i : Int) + j) / 2) (((i : Int) + j) / 2) (mid + m - 1 - (i + j) / 2) ((i + j) / 2) (by omega) (by omega) (by omega) (by omega)
        cases hp : lt d[mid + m - 1 - (i + j) / 2]! d[(i + j) / 2]! with
        | false =>
          rw [hp] at hl
          obtain ⟨f', hf', hb'⟩ := bs_hit (fun c => !lt d[mid + m - 1 - c]! d[c]!) hlt2 hf (by rw [hp]; rfl)
          have HB' : Hid _ := hb'
          clear hb' hp hc0 hc1
          go_wp2_with (go_at_fn g; refine hl.mono ?_; rintro e w' ⟨rfl, hq⟩)
          go_roundw
          case rel => exact ⟨(i + j) / 2 + 1, j, f', by go_num, rfl, by omega, by omega, hjb, hf', HB'.out.symm.trans HB.out, hL.trans hblk1 hq rfl⟩
          case measure => simp [intOf]; omega
        | true =>
          rw [hp] at hl
          obtain ⟨f', hf', hb'⟩ := bs_miss (fun c => !lt d[mid + m - 1 - c]! d[c]!) hlt2 hf (by rw [hp]; rfl)
          have HB' : Hid _ := hb'
          clear hb' hp hc0 hc1
          go_wp2_with (go_at_fn g; refine hl.mono ?_; rintro e w' ⟨rfl, hq⟩)
          go_roundw
          case rel => exact ⟨i, (i + j) / 2, f', rfl, by go_num, hmi, by omega, by omega, hf', HB'.out.symm.trans HB.out, hL.trans hblk1 hq rfl⟩
          case measure => simp [intOf]; omega
      · have hbi : st = i := by rw [HST.out, ← HB.out, bs_stop _ hlt2]
        have hen := HEN.out
        subst hbi
        have een : (mid : Int) + m - st = en := by omega
        obtain ⟨he1, he2, he3⟩ := hen1
        have s1 : d1.size = d.size := by rw [HD1.out]; split; exact size_rotate _ _ _ _; rfl
        have hL1 : ∀ w', Leaves enc Wb blk off d1 w' → Ctx enc lt g lb sf sb blk off d.size w' ∧ Holds enc w' blk off d1 ∧ w'.cell? ⟨W.heap.size, 0, none⟩ = some (.func (.func g) #[] lb) ∧ w'.cell? ⟨W.heap.size, 1, none⟩ = some (.func (.func sf) #[] sb) := fun w' h =>
          ⟨hC.on h s1, h.holds hblk1 hH1 s1, by rw [h.cell W.heap.size 0 hlt (by omega)]; exact hc0, by rw [h.cell W.heap.size 1 hlt (by omega)]; exact hc1⟩
        have HL1 : Hid _ := hL1
        have cc0 : wr.cell? ⟨W.heap.size, 0, none⟩ = some (.func (.func g) #[] lb) := by rw [hL.cell W.heap.size 0 hlt (by omega)]; exact hc0
        have cc1 : wr.cell? ⟨W.heap.size, 1, none⟩ = some (.func (.func sf) #[] sb) := by rw [hL.cell W.heap.size 1 hlt (by omega)]; exact hc1
        have S1 : Hid (d1.size = d.size) := s1
        clear hen HB HST HEN hL1 s1
        go_upto_region 40 with fail
        go_cut [145] (fun x wx => x = .bool (decide (st < m ∧ m < en)) ∧ wx = wr)
        case first =>
          by_cases c1 : st < m <;> by_cases c2 : m < en
          all_goals
            go_wp2
            go_meet
            case rel => exact ⟨by simp [c1, c2], rfl⟩
        case rest =>
          obtain ⟨rfl, hwc⟩ := hcut
          subst wc
          go_upto_if 145 with fail
          go_cut [150] (fun _ wx => Leaves enc Wb blk off d1 wx)
          case first =>
            by_cases c : st < m ∧ m < en
            · have hd : decide (st < m ∧ m < en) = true := by simp [c]
              have hHw := hL.holds hblk1 hH1 rfl
              have hR := rotate_walk enc g lb sf sb blk off d wr hC.swap hHw (hL.lt hblk1) st m en st m en rfl rfl rfl c.1 c.2 (by omega) hsz
              clear hHw
              go_wp2_with (go_at_call 53; refine hR.mono ?_; rintro e w' ⟨rfl, hL2⟩)
              go_meet
              case rel => rw [HD1.out, if_pos c]; exact hL.trans hblk1 hL2 (size_rotate _ _ _ _)
            · have hd : decide (st < m ∧ m < en) = false := by simp [c]
              go_wp2
              go_meet
              case rel => rw [HD1.out, if_neg c]; exact hL
          case rest =>
            clear hL cc0 cc1
            obtain ⟨C1, H1', k0, k1⟩ := HL1.out _ hcut
            generalize wc = w1 at *
            have CC1 : Hid _ := C1
            have HH1 : Hid _ := H1'
            have HC1 : Hid _ := hcut
            clear C1 H1' hcut
            go_upto_region 42 with fail
            go_cut [158] (fun x wx => x = .bool (decide (a < st ∧ st < mid)) ∧ wx = w1)
            case first =>
              by_cases c1 : a < st <;> by_cases c2 : st < mid
              all_goals
                go_wp2
                go_meet
                case rel => exact ⟨by simp [c1, c2], rfl⟩
            case rest =>
              obtain ⟨rfl, hwc⟩ := hcut
              subst wc
              go_upto_if 158 with fail
              go_cut [163] (fun _ wx => Leaves enc Wb blk off d2 wx)
              case first =>
                by_cases c : a < st ∧ st < mid
                · have hd : decide (a < st ∧ st < mid) = true := by simp [c]
                  have hR := ih.out d1 w1 S1.out CC1.out HH1.out a st mid (by omega) c.1 c.2 (by omega)
                  go_wp2_with (go_at_call 49; refine hR.mono ?_; rintro e w' ⟨rfl, hL2⟩)
                  go_meet
                  case rel => rw [HD2.out, if_pos c]; exact Leaves.trans hblk1 HC1.out hL2 (size_symMerge _ _ _ _ _ _)
                · have hd : decide (a < st ∧ st < mid) = false := by simp [c]
                  go_wp2
                  go_meet
                  case rel => rw [HD2.out, if_neg c]; exact HC1.out
              case rest =>
                have s2 : d2.size = d.size := by rw [HD2.out]; split; rw [size_symMerge]; exact S1.out; exact S1.out
                have C2 := hC.on hcut s2
                have H2' := hcut.holds hblk1 hH1 s2
                have k0' : wc.cell? ⟨W.heap.size, 0, none⟩ = some (.func (.func g) #[] lb) := by rw [hcut.cell W.heap.size 0 hlt (by omega)]; exact hc0
                have k1' : wc.cell? ⟨W.heap.size, 1, none⟩ = some (.func (.func sf) #[] sb) := by rw [hcut.cell W.heap.size 1 hlt (by omega)]; exact hc1
                clear k0 k1
                generalize wc = w2 at *
                have S2 : Hid (d2.size = d.size) := s2
                have CC2 : Hid _ := C2
                have HH2 : Hid _ := H2'
                have HC2 : Hid _ := hcut
                clear C2 H2' hcut CC1 HH1 HC1 s2
                go_upto_region 44 with fail
                go_cut [171] (fun x wx => x = .bool (decide (mid < en ∧ en < b)) ∧ wx = w2)
                case first =>
                  by_cases c1 : mid < en <;> by_cases c2 : en < b
                  all_goals
                    go_wp2
                    go_meet
                    case rel => exact ⟨by simp [c1, c2], rfl⟩
                case rest =>
                  obtain ⟨rfl, hwc⟩ := hcut
                  subst wc
                  by_cases c : mid < en ∧ en < b
                  · have hd : decide (mid < en ∧ en < b) = true := by simp [c]
                    have hR := ih.out d2 w2 S2.out CC2.out HH2.out mid en b (by omega) c.1 c.2 (by omega)
                    go_wp2_with (go_at_call 49; refine hR.mono ?_; rintro e w' ⟨rfl, hL2⟩)
                    go_end0
                    refine ⟨rfl, HU.out _ _ ?_⟩
                    rw [HD3.out, if_pos c]
                    exact Leaves.trans hblk1 HC2.out hL2 (size_symMerge _ _ _ _ _ _)
                  · have hd : decide (mid < en ∧ en < b) = false := by simp [c]
                    go_wp2
                    go_end0
                    refine ⟨rfl, HU.out _ _ ?_⟩
                    rw [HD3.out, if_neg c]
                    exact HC2.out

/-- sort.symMerge_func -/
theorem symMerge_walk (enc : α → Value) (lt : α → α → Bool) (g : Nat) (lb : Array Value) (sf : Nat) (sb : Array Value) (blk off size : Nat) : ∀ (F : Nat) (d : Array α) (W : World), d.size = size → Ctx enc lt g lb sf sb blk off size W → Holds enc W blk off d → ∀ (a m b : Nat), b - a ≤ F → a < m → m < b → b ≤ size →
      Calls Try.prog 49 #[.agg #[.func (.func g) #[] lb, .func (.func sf) #[] sb], .int .i64 a, .int .i64 m, .int .i64 b] W fun e w' => e = .returned (.tuple #[]) ∧ Leaves enc W blk off (symMerge lt F d a m b) w'
  | 0, _, _, _, _, _, a, m, b, h1, h2, h3, _ => by omega
  | F + 1, d, W, hs, C, hH, a, m, b, hF, ham, hmb, hb => by
    subst hs
    by_cases c1 : m - a = 1
    · rw [symMerge, if_pos c1]
      exact symMerge_one enc lt g lb sf sb blk off d W C hH a m b (by omega) hmb hb
    · by_cases c2 : b - m = 1
      · rw [symMerge, if_neg c1, if_pos c2]
        exact symMerge_two enc lt g lb sf sb blk off d W C hH a m b (by omega) (by omega) hb
      · rw [symMerge, if_neg c1, if_neg c2]
        exact symMerge_rest enc lt g lb sf sb blk off d W F (fun d' W' h1 h2 h3 => symMerge_walk enc lt g lb sf sb blk off d.size F d' W' h1 h2 h3) C hH a m b _ _ _ _ _ _ _ _ (by omega) (by omega) hb hF rfl rfl rfl rfl rfl rfl rfl rfl

end Go.Proofs.Qxb6612885a
