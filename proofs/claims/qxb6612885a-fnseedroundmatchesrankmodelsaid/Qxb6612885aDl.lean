/-
  A downloading round, plain: its parts.
-/
import Derived.Test.Qxb6612885aDless
namespace Go.Proofs.Qxb6612885a
open Go.RowKit Go.Sort

def keptTo (ns : List N) : Nat → Int
  | 0 => -1
  | k + 1 => if ns[k]!.op && ns[k]!.un then (k : Int) else keptTo ns k

theorem keptTo_range (ns : List N) : ∀ k, -1 ≤ keptTo ns k ∧ keptTo ns k < k
  | 0 => by simp [keptTo]
  | k + 1 => by
    have := keptTo_range ns k
    unfold keptTo
    split <;> omega

def flt (p : Nat → Bool) (k : Nat) : List Nat := (List.range k).filter p
theorem flt_zero (p : Nat → Bool) : flt p 0 = [] := rfl
theorem flt_hit {p : Nat → Bool} {k : Nat} (h : p k = true) : flt p (k + 1) = flt p k ++ [k] := by
  unfold flt; rw [List.range_succ, List.filter_append]; simp [h]
theorem flt_miss {p : Nat → Bool} {k : Nat} (h : p k = false) : flt p (k + 1) = flt p k := by
  unfold flt; rw [List.range_succ, List.filter_append]; simp [h]
theorem flt_len (p : Nat → Bool) (k : Nat) : (flt p k).length ≤ k := by
  unfold flt; refine Nat.le_trans (List.length_filter_le _ _) ?_; simp
theorem flt_mem {p : Nat → Bool} {k x : Nat} : x ∈ flt p k ↔ x < k ∧ p x = true := by
  unfold flt; simp
theorem flt_inc (p : Nat → Bool) (k : Nat) : ∀ i j, i < j → j < (flt p k).length → (flt p k)[i]! < (flt p k)[j]! := by
  have h : (flt p k).Pairwise (· < ·) := List.Pairwise.filter _ List.pairwise_lt_range
  rw [List.pairwise_iff_getElem] at h
  intro i j hij hj
  rw [getElem!_pos _ i (by omega), getElem!_pos _ j hj]
  exact h i j (by omega) hj hij

/-- who may become a regular unchoke -/
def elig (ns : List N) (now : Nat) (rt : Bool) (kp : Int) (i : Nat) : Bool := ns[i]!.it && !snub ns[i]!.ld now && (rt || (i : Int) != kp)

/-- the list with its flags turned -/
def upd (f : Nat → N → N) (ns : List N) : List N := ns.mapIdx f
theorem upd_len (f : Nat → N → N) (ns : List N) : (upd f ns).length = ns.length := by simp [upd]
theorem upd_at (f : Nat → N → N) (ns : List N) (i : Nat) (h : i < ns.length) : (upd f ns)[i]! = f i ns[i]! := by
  rw [getElem!_pos _ i (by rw [upd_len]; exact h), getElem!_pos ns i h]; simp [upd]

def clr (k i : Nat) (x : N) : N := if i < k then { x with un := false, op := false } else x
/-- regular unchokes: those of s; no optimistic one -/
def reg (s : List Nat) (i : Nat) (x : N) : N := { x with un := s.contains i, op := false }
/-- .. and one optimistic unchoke -/
def fin (s : List Nat) (o : Int) (i : Nat) (x : N) : N := { x with un := s.contains i || (i : Int) == o, op := (i : Int) == o }

theorem NAt.setUn {w : World} {b o : Nat} {x : N} (h : NAt w b o x) (u : Bool) : NAt (w.setCell ⟨b, o + 1, none⟩ (.bool u)) b o { x with un := u } := by
  obtain ⟨h0, h1, h2, h3, h4, h5⟩ := h
  refine ⟨?_, World.cell?_setCell_same w _ _ h1, ?_, ?_, ?_, ?_⟩ <;> (refine (World.cell?_setCell_other _ _ _ _ (by simp)).trans ?_; assumption)
theorem NAt.setOp {w : World} {b o : Nat} {x : N} (h : NAt w b o x) (u : Bool) : NAt (w.setCell ⟨b, o + 2, none⟩ (.bool u)) b o { x with op := u } := by
  obtain ⟨h0, h1, h2, h3, h4, h5⟩ := h
  refine ⟨?_, ?_, World.cell?_setCell_same w _ _ h2, ?_, ?_, ?_⟩ <;> (refine (World.cell?_setCell_other _ _ _ _ (by simp)).trans ?_; assumption)

theorem NsAt.setUn {w : World} {B : Nat} {ns ms : List N} (h : NsAt w B ns) (i : Nat) (hi : i < ns.length) (u : Bool) (hl : ms.length = ns.length) (hm : ms[i]! = { ns[i]! with un := u }) (hj : ∀ j, j < ns.length → j ≠ i → ms[j]! = ns[j]!) :
    NsAt (w.setCell ⟨B, i * 6 + 1, none⟩ (.bool u)) B ms := by
  intro j hj'
  rw [hl] at hj'
  refine ⟨?_, fun c hc => by rw [World.frozen?_setCell]; exact (h j hj').2 c hc⟩
  by_cases e : j = i
  · subst e; rw [hm]; exact (h j hj').1.setUn u
  · rw [hj j hj' e]
    exact (h j hj').1.of_cells fun c hc => World.cell?_setCell_other _ _ _ _ (by simp <;> omega)
theorem NsAt.setOp {w : World} {B : Nat} {ns ms : List N} (h : NsAt w B ns) (i : Nat) (hi : i < ns.length) (u : Bool) (hl : ms.length = ns.length) (hm : ms[i]! = { ns[i]! with op := u }) (hj : ∀ j, j < ns.length → j ≠ i → ms[j]! = ns[j]!) :
    NsAt (w.setCell ⟨B, i * 6 + 2, none⟩ (.bool u)) B ms := by
  intro j hj'
  rw [hl] at hj'
  refine ⟨?_, fun c hc => by rw [World.frozen?_setCell]; exact (h j hj').2 c hc⟩
  by_cases e : j = i
  · subst e; rw [hm]; exact (h j hj').1.setOp u
  · rw [hj j hj' e]
    exact (h j hj').1.of_cells fun c hc => World.cell?_setCell_other _ _ _ _ (by simp <;> omega)

theorem NsAt.congr {w : World} {B : Nat} {ns ms : List N} (h : NsAt w B ns) (hl : ms.length = ns.length) (hm : ∀ i, i < ns.length → ms[i]! = ns[i]!) : NsAt w B ms := fun i hi => by
  rw [hl] at hi
  rw [hm i hi]
  exact h i hi

theorem NsAt.set2 {w : World} {B : Nat} {ns ms : List N} (h : NsAt w B ns) (i : Nat) (hi : i < ns.length) (u v : Bool) (hl : ms.length = ns.length) (hm : ms[i]! = { ns[i]! with un := u, op := v }) (hj : ∀ j, j < ns.length → j ≠ i → ms[j]! = ns[j]!) :
    NsAt ((w.setCell ⟨B, i * 6 + 1, none⟩ (.bool u)).setCell ⟨B, i * 6 + 2, none⟩ (.bool v)) B ms := by
  have e : (ns.set i { ns[i]! with un := u }).length = ns.length := by simp
  have g : ∀ j, j < ns.length → (ns.set i { ns[i]! with un := u })[j]! = if i = j then { ns[i]! with un := u } else ns[j]! := fun j hj => by
    rw [getElem!_pos _ j (by rw [e]; exact hj), List.getElem_set, getElem!_pos ns j hj]
  have h1 := h.setUn i hi u (ms := ns.set i { ns[i]! with un := u }) e (by rw [g i hi, if_pos rfl]) (fun j hj hne => by rw [g j hj, if_neg (fun e => hne e.symm)])
  refine h1.setOp i (by rw [e]; exact hi) v (by rw [e]; exact hl) ?_ ?_
  · rw [hm, g i hi, if_pos rfl]
  · intro j hj' hne
    rw [e] at hj'
    rw [hj j hj' hne, g j hj', if_neg (fun e => hne e.symm)]

theorem NsAt.clear {w : World} {B : Nat} {ns : List N} {i : Nat} (hi : i < ns.length) (h : NsAt w B (upd (clr i) ns)) : NsAt ((w.setCell ⟨B, i * 6 + 1, none⟩ (.bool false)).setCell ⟨B, i * 6 + 2, none⟩ (.bool false)) B (upd (clr (i + 1)) ns) := by
  refine h.set2 i (by rw [upd_len]; exact hi) false false (by rw [upd_len, upd_len]) ?_ ?_
  · rw [upd_at _ _ _ hi, upd_at _ _ _ hi]
    simp [clr]
  · intro j hj hne
    rw [upd_len] at hj
    rw [upd_at _ _ _ hj, upd_at _ _ _ hj]
    unfold clr
    by_cases h1 : j < i
    · rw [if_pos (by omega), if_pos h1]
    · rw [if_neg (by omega), if_neg h1]

theorem NsAt.cleared {w : World} {B : Nat} {ns : List N} (h : NsAt w B (upd (clr ns.length) ns)) : NsAt w B (upd (reg []) ns) := by
  refine h.congr (by rw [upd_len, upd_len]) fun i hi => ?_
  rw [upd_len] at hi
  rw [upd_at _ _ _ hi, upd_at _ _ _ hi]
  simp [clr, reg, hi]

theorem NsAt.mark {w : World} {B : Nat} {ns : List N} {srt : List Nat} {p : Nat} (hp : p < srt.length) (hx : srt[p]! < ns.length) (h : NsAt w B (upd (reg (srt.take p)) ns)) : NsAt (w.setCell ⟨B, srt[p]! * 6 + 1, none⟩ (.bool true)) B (upd (reg (srt.take (p + 1))) ns) := by
  refine h.setUn srt[p]! (by rw [upd_len]; exact hx) true (by rw [upd_len, upd_len]) ?_ ?_
  · rw [upd_at _ _ _ hx, upd_at _ _ _ hx]
    simp only [reg]
    have : (srt.take (p + 1)).contains srt[p]! = true := by
      rw [List.take_succ_eq_append_getElem hp, getElem!_pos srt p hp]
      generalize srt.take p = t
      generalize srt[p] = y
      simp
    rw [this]
  · intro j hj hne
    rw [upd_len] at hj
    rw [upd_at _ _ _ hj, upd_at _ _ _ hj]
    simp only [reg]
    rw [List.take_succ_eq_append_getElem hp]
    rw [getElem!_pos srt p hp] at hne
    generalize srt.take p = t
    generalize srt[p] = y at hne
    have : (t ++ [y]).contains j = t.contains j := by simp [hne]
    rw [this]

theorem NsAt.choose {w : World} {B : Nat} {ns : List N} {rg : List Nat} {o : Nat} (ho : o < ns.length) (h : NsAt w B (upd (reg rg) ns)) : NsAt ((w.setCell ⟨B, o * 6 + 1, none⟩ (.bool true)).setCell ⟨B, o * 6 + 2, none⟩ (.bool true)) B (upd (fin rg (o : Int)) ns) := by
  refine h.set2 o (by rw [upd_len]; exact ho) true true (by rw [upd_len, upd_len]) ?_ ?_
  · rw [upd_at _ _ _ ho, upd_at _ _ _ ho]; simp [fin, reg]
  · intro j hj hne
    rw [upd_len] at hj
    rw [upd_at _ _ _ hj, upd_at _ _ _ hj]
    have : ((j : Int) == (o : Int)) = false := by simp; omega
    simp [fin, reg, this]

theorem NsAt.chooseNone {w : World} {B : Nat} {ns : List N} {rg : List Nat} {o : Int} (ho : o < 0) (h : NsAt w B (upd (reg rg) ns)) : NsAt w B (upd (fin rg o) ns) := by
  refine h.congr (by rw [upd_len, upd_len]) fun j hj => ?_
  rw [upd_len] at hj
  rw [upd_at _ _ _ hj, upd_at _ _ _ hj]
  have : ((j : Int) == o) = false := by simp; omega
  simp [fin, reg, this]

/-! ### a round, plain -/
/-- the strict order of the ranking: faster, or as fast and earlier -/
def dle (ns : List N) (x y : Nat) : Bool := dlt ns x y || (!dlt ns y x && decide (x < y))
/-- who may be drawn -/
def cand (ns : List N) (rg : List Nat) (kp : Int) (i : Nat) : Bool := ns[i]!.it && !rg.contains i && (i : Int) != kp

/-- who is drawn; when the draw was -/
def OptR (ns : List N) (rg : List Nat) (kp : Int) (rt : Bool) (now at_ : Nat) (s : Nat × Nat) (opt : Int) (at' : Nat) : Prop :=
  (rt = false ∧ opt = kp ∧ at' = at_) ∨
  (rt = true ∧ flt (cand ns rg kp) ns.length ≠ [] ∧ at' = now ∧ ∃ r, DrawR (flt (cand ns rg kp) ns.length).length s r ∧ opt = ((flt (cand ns rg kp) ns.length)[r]! : Nat)) ∨
  (rt = true ∧ flt (cand ns rg kp) ns.length = [] ∧ at' = at_ ∧ opt = if decide (0 ≤ kp) && rg.contains kp.toNat then -1 else kp)

/-- what a downloading round makes of the list -/
def DlR (ns : List N) (slots : Nat) (now at_ : Nat) (s : Nat × Nat) (ms : List N) (at' : Nat) : Prop :=
  ∃ (rt : Bool) (srt : List Nat) (opt : Int), rt = rot now at_ (decide (0 ≤ keptTo ns ns.length)) ∧ srt.Perm (flt (elig ns now rt (keptTo ns ns.length)) ns.length) ∧
    (∀ i j, i < j → j < srt.length → dle ns srt[j]! srt[i]! = false) ∧ OptR ns (srt.take (slots - 1)) (keptTo ns ns.length) rt now at_ s opt at' ∧ ms = upd (fin (srt.take (slots - 1)) opt) ns

/-- the choker and what it leads to -/
structure Ready (w : World) (bc B bp br base slots : Nat) (rounds : Int) (at_ : Nat) (vo : Value) (no : Nat) (xo : List Value) (ns : List N) (s : Nat × Nat) : Prop where
  chk : w.heap[bc]? = some (.cells #[.int .i64 (slots : Nat), .pointer (some ⟨br, 0, none⟩), .int .i64 rounds, .float .f64 at_, vo] 49 (0, 0))
  own : w.ownsRow base 3 1 vo no xo
  ns : NsAt w B ns
  tagB : Tag w B 42
  pcg : Holds encU w bp 0 (row2 s)
  tagP : Tag w bp 60
  rnd : Box w br (.iface 45 (.pointer (some ⟨bp, 0, none⟩))) 58
  hs : s.2 < 18446744073709551616

theorem dlt_key {ns : List N} (h : ∀ i : Nat, Flt.nan ns[i]!.ra = false) (x y : Nat) : dlt ns x y = decide (Flt.key ns[y]!.ra < Flt.key ns[x]!.ra) := Flt.gt_key (h x) (h y)

theorem dle_sto {ns : List N} (h : ∀ i : Nat, Flt.nan ns[i]!.ra = false) : STO (dle ns) := by
  have e : ∀ x y, dle ns x y = decide (Flt.key ns[y]!.ra < Flt.key ns[x]!.ra ∨ (¬ Flt.key ns[x]!.ra < Flt.key ns[y]!.ra ∧ x < y)) := fun x y => by
    unfold dle
    rw [dlt_key h, dlt_key h]
    simp only [Bool.decide_or, Bool.decide_and, decide_not]
  refine ⟨⟨?_, ?_, ?_⟩, ?_⟩
  · intro x; rw [e]; simp
  · intro x y z; rw [e, e, e]; simp only [decide_eq_true_eq]; omega
  · intro x y z; rw [e, e, e]; simp only [decide_eq_false_iff_not]; omega
  · intro x y hne; rw [e, e]; simp only [decide_eq_true_eq]; omega

theorem dle_earlier (ns : List N) (x y : Nat) (h : x < y) : dlt ns y x = dle ns y x := by
  unfold dle
  have : decide (y < x) = false := by simp; omega
  rw [this]; simp

end Go.Proofs.Qxb6612885a
