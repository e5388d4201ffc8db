/-
  The walk of sort.symMerge_func.
-/
import Derived.Test.Qxb6612885aRot
namespace Go.Proofs.Qxb6612885a
open Go.Shelf Go.RowKit Go.Lib Go.Sort
variable {α : Type} [Inhabited α]

theorem bs_hit (p : Nat → Bool) {f i j : Nat} (hij : i < j) (hf : j - i ≤ f) (hp : p ((i + j) / 2) = true) : ∃ f', j - ((i + j) / 2 + 1) ≤ f' ∧ bs p f i j = bs p f' ((i + j) / 2 + 1) j := by
  cases f with
  | zero => omega
  | succ f => exact ⟨f, by omega, by rw [bs, if_pos hij, if_pos hp]⟩
theorem bs_miss (p : Nat → Bool) {f i j : Nat} (hij : i < j) (hf : j - i ≤ f) (hp : p ((i + j) / 2) = false) : ∃ f', (i + j) / 2 - i ≤ f' ∧ bs p f i j = bs p f' i ((i + j) / 2) := by
  cases f with
  | zero => omega
  | succ f => exact ⟨f, by omega, by rw [bs, if_pos hij, if_neg (by rw [hp]; simp)]⟩
theorem bs_stop (p : Nat → Bool) {f i j : Nat} (hij : ¬ i < j) : bs p f i j = i := by
  cases f with
  | zero => rfl
  | succ f => rw [bs, if_neg hij]

/-- What is asked of 'less' (function g, bound to lb): in every world of the sort it tells 'lt', and leaves what lies in the row and all that was there; it may draw and lay new blocks. -/
def LessG (enc : α → Value) (lt : α → α → Bool) (g : Nat) (lb : Array Value) (blk off size : Nat) (W : World) : Prop :=
  ∀ (d : Array α) (w' : World), d.size = size → Leaves enc W blk off d w' → ∀ (I J : Int) (i j : Nat), I = i → J = j → i < size → j < size →
    Calls Try.prog g (#[.int .i64 I, .int .i64 J] ++ lb) w' fun e w'' => e = .returned (.bool (lt d[i]! d[j]!)) ∧ Leaves enc w' blk off d w''

/-- All that the walks of this text lean on. -/
structure Ctx (enc : α → Value) (lt : α → α → Bool) (g : Nat) (lb : Array Value) (sf : Nat) (sb : Array Value) (blk off size : Nat) (W : World) : Prop where
  eg : ∀ args w, (callFunc g args).run Try.prog w = .ok (.enter g args) w
  less : LessG enc lt g lb blk off size W
  swap : SwapSwaps Try.prog sf sb enc blk off size
  blk : blk < W.heap.size
  size : size < 4611686018427387904

theorem LessG.on {enc : α → Value} {lt : α → α → Bool} {g : Nat} {lb : Array Value} {blk off size : Nat} {W w' : World} {d : Array α} (h : LessG enc lt g lb blk off size W) (hblk : blk < W.heap.size) (hL : Leaves enc W blk off d w') (hs : d.size = size) : LessG enc lt g lb blk off size w' :=
  fun d2 w2 hs2 hL2 => h d2 w2 hs2 (hL.trans hblk hL2 (by rw [hs2, hs]))
theorem LessG.grow {enc : α → Value} {lt : α → α → Bool} {g : Nat} {lb : Array Value} {blk off size : Nat} {W : World} (h : LessG enc lt g lb blk off size W) (hblk : blk < W.heap.size) (os0 : Array Obj) : LessG enc lt g lb blk off size (Sort.grow W os0) :=
  fun d2 w2 hs2 hL2 => h d2 w2 hs2 (by
    obtain ⟨n, os, rfl⟩ := hL2
    exact ⟨n, os0 ++ os, by unfold sortWorld; rw [ahead_grow, putRow_grow enc (Sort.ahead W n) _ blk off _ hblk, grow_grow]⟩)

theorem Ctx.on {enc : α → Value} {lt : α → α → Bool} {g : Nat} {lb : Array Value} {sf : Nat} {sb : Array Value} {blk off size : Nat} {W w' : World} {d : Array α} (C : Ctx enc lt g lb sf sb blk off size W) (h : Leaves enc W blk off d w') (hs : d.size = size) : Ctx enc lt g lb sf sb blk off size w' :=
  ⟨C.eg, C.less.on C.blk h hs, C.swap, h.lt C.blk, C.size⟩
theorem Ctx.boxed {enc : α → Value} {lt : α → α → Bool} {g : Nat} {lb : Array Value} {sf : Nat} {sb : Array Value} {blk off size : Nat} {W : World} (C : Ctx enc lt g lb sf sb blk off size W) (F S : Value) : Ctx enc lt g lb sf sb blk off size (boxed W F S) :=
  ⟨C.eg, by rw [boxed_grow]; exact C.less.grow C.blk _, C.swap, by have := boxed_lt W F S; have := C.blk; omega, C.size⟩

set_option maxRecDepth 100000 in
set_option maxHeartbeats 2000000 in
/-- symMerge_func where the left side is one element -/
theorem symMerge_one (enc : α → Value) (lt : α → α → Bool) (g : Nat) (lb : Array Value) (sf : Nat) (sb : Array Value) (blk off : Nat) (d : Array α) (W : World)
    (C : Ctx enc lt g lb sf sb blk off d.size W) (hH : Holds enc W blk off d) (a m b : Nat) (hm : m = a + 1) (hmb : m < b) (hb : b ≤ d.size) :
    Calls Try.prog 49 #[.agg #[.func (.func g) #[] lb, .func (.func sf) #[] sb], .int .i64 a, .int .i64 m, .int .i64 b] W fun e w' => e = .returned (.tuple #[]) ∧ Leaves enc W blk off (rotate d a (a + 1) (bs (fun h => lt d[h]! d[a]!) (b - m) m b)) w' := by
  have hC := C.boxed (.func (.func g) #[] lb) (.func (.func sf) #[] sb)
  have hblk := C.blk
  have hsz := C.size
  have hH1 := boxed_holds (.func (.func g) #[] lb) (.func (.func sf) #[] sb) hblk hH
  have hlt := boxed_lt W (.func (.func g) #[] lb) (.func (.func sf) #[] sb)
  have hc0 := boxed_cell0 W (.func (.func g) #[] lb) (.func (.func sf) #[] sb)
  have hc1 := boxed_cell1 W (.func (.func g) #[] lb) (.func (.func sf) #[] sb)
  have hub := fun dk w' (h : Leaves enc (boxed W (.func (.func g) #[] lb) (.func (.func sf) #[] sb)) blk off dk w') => h.unbox hblk
  have HU : Hid _ := hub
  have h1 : ((m : Int) - a == 1) = true := by simp; omega
  have HM : Hid (m = a + 1) := hm
  have ham : a < m := by omega
  clear hm
  go_enter Try.func49, Try.ntmps49
  go_wp2
  change Code.wp _ _ _ _ (boxed W (.func (.func g) #[] lb) (.func (.func sf) #[] sb))
  generalize boxed W (.func (.func g) #[] lb) (.func (.func sf) #[] sb) = Wb at *
  clear hub hH C
  have hblk1 := hC.blk
  have eg := hC.eg
  go_loopw [8, 9] (fun vi vj wr => ∃ (i j f : Nat), vi = .int .i64 i ∧ vj = .int .i64 j ∧ m ≤ i ∧ i ≤ j ∧ j ≤ b ∧ j - i ≤ f ∧ bs (fun h => lt d[h]! d[a]!) f i j = bs (fun h => lt d[h]! d[a]!) (b - m) m b ∧ Leaves enc Wb blk off d wr)
    (fun vi vj _ => (intOf vj).toNat - (intOf vi).toNat)
  case atStart => exact ⟨m, b, b - m, rfl, rfl, Nat.le_refl _, by omega, Nat.le_refl _, Nat.le_refl _, rfl, Leaves.start hH1⟩
  case round =>
    obtain ⟨i, j, f, rfl, rfl, hmi, hij, hjb, hf, hbs, hL⟩ := hrel
    have HB : Hid _ := hbs
    clear hbs
    by_cases hlt2 : i < j
    · have cc0 : wr.cell? ⟨W.heap.size, 0, none⟩ = some (.func (.func g) #[] lb) := by rw [hL.cell W.heap.size 0 hlt (by omega)]; exact hc0
      have hl := hC.less d wr rfl hL (((i : Int) + j) / 2) a ((i + j) / 2) a (by omega) rfl (by omega) (by omega)
      cases hp : lt d[(i + j) / 2]! d[a]! with
      | true =>
        rw [hp] at hl
        obtain ⟨f', hf', hb'⟩ := bs_hit (fun h => lt d[h]! d[a]!) hlt2 hf hp
        have HB' : Hid _ := hb'
        clear hb' hp hc0 hc1
        go_wp2_with (go_at_fn g; refine hl.mono ?_; rintro e w' ⟨rfl, hq⟩)
        go_roundw
        case rel => exact ⟨(i + j) / 2 + 1, j, f', by go_num, rfl, by omega, by omega, hjb, hf', HB'.out.symm.trans HB.out, hL.trans hblk1 hq rfl⟩
        case measure => simp [intOf]; omega
      | false =>
        rw [hp] at hl
        obtain ⟨f', hf', hb'⟩ := bs_miss (fun h => lt d[h]! d[a]!) hlt2 hf hp
        have HB' : Hid _ := hb'
        clear hb' hp hc0 hc1
        go_wp2_with (go_at_fn g; refine hl.mono ?_; rintro e w' ⟨rfl, hq⟩)
        go_roundw
        case rel => exact ⟨i, (i + j) / 2, f', rfl, by go_num, hmi, by omega, by omega, hf', HB'.out.symm.trans HB.out, hL.trans hblk1 hq rfl⟩
        case measure => simp [intOf]; omega
    · have hbi : bs (fun h => lt d[h]! d[a]!) (b - m) m b = i := by rw [← HB.out, bs_stop _ hlt2]
      have HBI : Hid _ := hbi
      clear HB hbi
      have hib : i ≤ b := by omega
      have hL0 : Leaves enc Wb blk off (rotate d a (a + 1) (a + 1)) wr := by rw [rotate_none d a (a + 1) (a + 1) (.inr (Nat.le_refl _)) (by omega) (Nat.le_refl _)]; exact hL
      clear hL
      go_wp2
      go_loopw [11] (fun vk wr => ∃ k : Nat, vk = .int .i64 k ∧ a ≤ k ∧ k + 1 ≤ i ∧ Leaves enc Wb blk off (rotate d a (a + 1) (k + 1)) wr) (fun vk _ => i - (intOf vk).toNat)
      case atStart => exact ⟨a, rfl, Nat.le_refl _, by omega, hL0⟩
      case round =>
        obtain ⟨k, rfl, hak, hki, hL⟩ := hrel
        clear hL0
        by_cases hlt3 : k + 1 < i
        · have hlt3' : (k : Int) < (i : Int) - 1 := by omega
          have hszr : (rotate d a (a + 1) (k + 1)).size = d.size := size_rotate _ _ _ _
          have hHw := hL.holds hblk1 hH1 hszr
          have hs := hC.swap wr _ hHw hszr k (k + 1) (by omega) (by omega)
          have hL2 := hL.swap hblk1 k (k + 1) (by omega) (by omega)
          rw [rotate_step_up d a k hak (by omega)] at hL2
          have cc1 : wr.cell? ⟨W.heap.size, 1, none⟩ = some (.func (.func sf) #[] sb) := by rw [hL.cell W.heap.size 1 hlt (by omega)]; exact hc1
          rw [Int.natCast_add, Int.natCast_one] at hs
          generalize enc (rotate d a (a + 1) (k + 1))[k + 1]! = e1 at hs hL2
          generalize enc (rotate d a (a + 1) (k + 1))[k]! = e2 at hs hL2
          have HL2 : Hid _ := hL2
          clear hL hHw hszr hL2 hH1 hc0 hc1 hC
          go_wp2
          go_roundw
          case rel => exact ⟨k + 1, by go_num, by omega, by omega, HL2.out⟩
          case measure => simp [intOf]; omega
        · have hge : ¬ (k : Int) < (i : Int) - 1 := by omega
          have e : k + 1 = i := by omega
          rw [e] at hL
          have HL : Hid _ := hL
          clear e hL
          go_wp2
          refine bodyPost_ret (results_none rfl _ _ _) rfl ?_
          exact ⟨rfl, by rw [HBI.out]; exact HU.out _ _ HL.out⟩

set_option maxRecDepth 100000 in
set_option maxHeartbeats 2000000 in
/-- symMerge_func where the right side is one element -/
theorem symMerge_two (enc : α → Value) (lt : α → α → Bool) (g : Nat) (lb : Array Value) (sf : Nat) (sb : Array Value) (blk off : Nat) (d : Array α) (W : World)
    (C : Ctx enc lt g lb sf sb blk off d.size W) (hH : Holds enc W blk off d) (a m b : Nat) (ham : a + 2 ≤ m) (hm : b = m + 1) (hb : b ≤ d.size) :
    Calls Try.prog 49 #[.agg #[.func (.func g) #[] lb, .func (.func sf) #[] sb], .int .i64 a, .int .i64 m, .int .i64 b] W fun e w' => e = .returned (.tuple #[]) ∧ Leaves enc W blk off (rotate d (bs (fun h => !lt d[m]! d[h]!) (m - a) a m) m (m + 1)) w' := by
  have hC := C.boxed (.func (.func g) #[] lb) (.func (.func sf) #[] sb)
  have hblk := C.blk
  have hsz := C.size
  have hH1 := boxed_holds (.func (.func g) #[] lb) (.func (.func sf) #[] sb) hblk hH
  have hlt := boxed_lt W (.func (.func g) #[] lb) (.func (.func sf) #[] sb)
  have hc0 := boxed_cell0 W (.func (.func g) #[] lb) (.func (.func sf) #[] sb)
  have hc1 := boxed_cell1 W (.func (.func g) #[] lb) (.func (.func sf) #[] sb)
  have hub := fun dk w' (h : Leaves enc (boxed W (.func (.func g) #[] lb) (.func (.func sf) #[] sb)) blk off dk w') => h.unbox hblk
  have HU : Hid _ := hub
  have h1 : ((m : Int) - a == 1) = false := by simp; omega
  have h2 : ((b : Int) - m == 1) = true := by simp; omega
  have hmb : m < b := by omega
  clear hm
  go_enter Try.func49, Try.ntmps49
  go_wp2
  change Code.wp _ _ _ _ (boxed W (.func (.func g) #[] lb) (.func (.func sf) #[] sb))
  generalize boxed W (.func (.func g) #[] lb) (.func (.func sf) #[] sb) = Wb at *
  clear hub hH C
  have hblk1 := hC.blk
  have eg := hC.eg
  go_loopw [12, 13] (fun vi vj wr => ∃ (i j f : Nat), vi = .int .i64 i ∧ vj = .int .i64 j ∧ a ≤ i ∧ i ≤ j ∧ j ≤ m ∧ j - i ≤ f ∧ bs (fun h => !lt d[m]! d[h]!) f i j = bs (fun h => !lt d[m]! d[h]!) (m - a) a m ∧ Leaves enc Wb blk off d wr)
    (fun vi vj _ => (intOf vj).toNat - (intOf vi).toNat)
  case atStart => exact ⟨a, m, m - a, rfl, rfl, Nat.le_refl _, by omega, Nat.le_refl _, Nat.le_refl _, rfl, Leaves.start hH1⟩
  case round =>
    obtain ⟨i, j, f, rfl, rfl, hmi, hij, hjb, hf, hbs, hL⟩ := hrel
    have HB : Hid _ := hbs
    clear hbs
    by_cases hlt2 : i < j
    · have cc0 : wr.cell? ⟨W.heap.size, 0, none⟩ = some (.func (.func g) #[] lb) := by rw [hL.cell W.heap.size 0 hlt (by omega)]; exact hc0
      have hl := hC.less d wr rfl hL m (((i : Int) + j) / 2) m ((i + j) / 2) rfl (by omega) (by omega) (by omega)
      cases hp : lt d[m]! d[(i + j) / 2]! with
      | false =>
        rw [hp] at hl
        obtain ⟨f', hf', hb'⟩ := bs_hit (fun h => !lt d[m]! d[h]!) hlt2 hf (by rw [hp]; rfl)
        have HB' : Hid _ := hb'
        clear hb' hp hc0 hc1
        go_wp2_with (go_at_fn g; refine hl.mono ?_; rintro e w' ⟨rfl, hq⟩)
        go_roundw
        case rel => exact ⟨(i + j) / 2 + 1, j, f', by go_num, rfl, by omega, by omega, hjb, hf', HB'.out.symm.trans HB.out, hL.trans hblk1 hq rfl⟩
        case measure => simp [intOf]; omega
      | true =>
        rw [hp] at hl
        obtain ⟨f', hf', hb'⟩ := bs_miss (fun h => !lt d[m]! d[h]!) hlt2 hf (by rw [hp]; rfl)
        have HB' : Hid _ := hb'
        clear hb' hp hc0 hc1
        go_wp2_with (go_at_fn g; refine hl.mono ?_; rintro e w' ⟨rfl, hq⟩)
        go_roundw
        case rel => exact ⟨i, (i + j) / 2, f', rfl, by go_num, hmi, by omega, by omega, hf', HB'.out.symm.trans HB.out, hL.trans hblk1 hq rfl⟩
        case measure => simp [intOf]; omega
    · have hbi : bs (fun h => !lt d[m]! d[h]!) (m - a) a m = i := by rw [← HB.out, bs_stop _ hlt2]
      have HBI : Hid _ := hbi
      clear HB hbi
      have hib : i ≤ m := by omega
      have hL0 : Leaves enc Wb blk off (rotate d m m (m + 1)) wr := by rw [rotate_none d m m (m + 1) (.inl (Nat.le_refl _)) (Nat.le_refl _) (by omega)]; exact hL
      clear hL
      go_wp2
      go_loopw [15] (fun vk wr => ∃ k : Nat, vk = .int .i64 k ∧ i ≤ k ∧ k ≤ m ∧ Leaves enc Wb blk off (rotate d k m (m + 1)) wr) (fun vk _ => (intOf vk).toNat)
      case atStart => exact ⟨m, rfl, hib, Nat.le_refl _, hL0⟩
      case round =>
        obtain ⟨k, rfl, hik, hkm, hL⟩ := hrel
        clear hL0
        by_cases hlt3 : i < k
        · have hszr : (rotate d k m (m + 1)).size = d.size := size_rotate _ _ _ _
          have hHw := hL.holds hblk1 hH1 hszr
          have hs := hC.swap wr _ hHw hszr k (k - 1) (by omega) (by omega)
          have hL2 := hL.swap hblk1 k (k - 1) (by omega) (by omega)
          rw [rotate_step_down d m k hkm (by omega) (by omega)] at hL2
          have cc1 : wr.cell? ⟨W.heap.size, 1, none⟩ = some (.func (.func sf) #[] sb) := by rw [hL.cell W.heap.size 1 hlt (by omega)]; exact hc1
          rw [show ((k - 1 : Nat) : Int) = (k : Int) - 1 by omega] at hs
          generalize enc (rotate d k m (m + 1))[k - 1]! = e1 at hs hL2
          generalize enc (rotate d k m (m + 1))[k]! = e2 at hs hL2
          have HL2 : Hid _ := hL2
          clear hL hHw hszr hL2 hH1 hc0 hc1 hC
          go_wp2
          go_roundw
          case rel => exact ⟨k - 1, by go_num, by omega, by omega, HL2.out⟩
          case measure => simp [intOf]; omega
        · have e : k = i := by omega
          subst e
          have HL : Hid _ := hL
          clear hL
          go_wp2
          refine bodyPost_ret (results_none rfl _ _ _) rfl ?_
          exact ⟨rfl, by rw [HBI.out]; exact HU.out _ _ HL.out⟩

end Go.Proofs.Qxb6612885a
