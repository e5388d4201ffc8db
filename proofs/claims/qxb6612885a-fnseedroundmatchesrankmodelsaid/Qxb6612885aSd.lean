/-
  A seed's round, plain: its parts.
-/
import Derived.Test.Qxb6612885aPlain
namespace Go.Proofs.Qxb6612885a
open Go.RowKit Go.Sort

/-- seedBefore -/
def sbef (a b : N) : Bool := if (a.un != b.un) = true then a.un else if (a.un && !Flt.eq a.ua b.ua) = true then Flt.gt a.ua b.ua else Flt.gt a.ra b.ra

def ku (a : N) : Int := if a.un = true then 0 else 1
def kt (a : N) : Int := if a.un = true then -Flt.key a.ua else 0
def kr (a : N) : Int := -Flt.key a.ra

theorem sbef_key {a b : N} (h1 : Flt.nan a.ra = false) (h2 : Flt.nan b.ra = false) (h3 : Flt.nan a.ua = false) (h4 : Flt.nan b.ua = false) :
    sbef a b = decide (ku a < ku b ∨ (ku a = ku b ∧ (kt a < kt b ∨ (kt a = kt b ∧ kr a < kr b)))) := by
  unfold sbef ku kt kr
  rw [Flt.gt_key h3 h4, Flt.gt_key h1 h2, Flt.eq_key h3 h4]
  generalize Flt.key a.ua = x
  generalize Flt.key b.ua = y
  generalize Flt.key a.ra = z
  generalize Flt.key b.ra = t
  rw [Bool.eq_iff_iff, decide_eq_true_iff]
  cases a.un <;> cases b.un
  · have e : (false != false) = false := rfl
    rw [e, Bool.false_and]
    simp only [Bool.false_eq_true, if_false, decide_eq_true_eq, true_and]
    omega
  · simp
  · simp
  · have e : (true != true) = false := rfl
    rw [e, Bool.true_and]
    by_cases h : x = y
    · rw [decide_eq_true h]
      simp only [Bool.not_true, Bool.false_eq_true, if_false, if_true, decide_eq_true_eq, true_and]
      omega
    · rw [decide_eq_false h]
      simp only [Bool.not_false, Bool.false_eq_true, if_false, if_true, decide_eq_true_eq, true_and]
      omega

def slt (ns : List N) (x y : Nat) : Bool := sbef ns[x]! ns[y]!
def sle (ns : List N) (x y : Nat) : Bool := slt ns x y || (!slt ns y x && decide (x < y))

theorem sle_sto {ns : List N} (h1 : ∀ i : Nat, Flt.nan ns[i]!.ra = false) (h2 : ∀ i : Nat, Flt.nan ns[i]!.ua = false) : STO (sle ns) := by
  have e : ∀ x y, sle ns x y = decide ((ku ns[x]! < ku ns[y]! ∨ (ku ns[x]! = ku ns[y]! ∧ (kt ns[x]! < kt ns[y]! ∨ (kt ns[x]! = kt ns[y]! ∧ kr ns[x]! < kr ns[y]!)))) ∨ (ku ns[x]! = ku ns[y]! ∧ kt ns[x]! = kt ns[y]! ∧ kr ns[x]! = kr ns[y]! ∧ x < y)) := fun x y => by
    unfold sle slt
    rw [sbef_key (h1 x) (h1 y) (h2 x) (h2 y), sbef_key (h1 y) (h1 x) (h2 y) (h2 x), ← decide_not, ← Bool.decide_and, ← Bool.decide_or]
    exact decide_eq_decide.2 (by omega)
  refine ⟨⟨?_, ?_, ?_⟩, ?_⟩
  · intro x; rw [e]; simp only [decide_eq_false_iff_not]; omega
  · intro x y z; rw [e, e, e]; simp only [decide_eq_true_eq]; omega
  · intro x y z; rw [e, e, e]; simp only [decide_eq_false_iff_not]; omega
  · intro x y hne; rw [e, e]; simp only [decide_eq_true_eq]; omega

theorem sle_earlier (ns : List N) (x y : Nat) (h : x < y) : slt ns y x = sle ns y x := by
  unfold sle
  have : decide (y < x) = false := by simp; omega
  rw [this]; simp

def isI (ns : List N) (i : Nat) : Bool := ns[i]!.it
/-- does the round draw? -/
def draws (rounds : Int) (per : Bool) (slots len : Nat) : Bool := per && (rounds.tmod 3 != 0) && decide (slots ≤ len)
/-- the order, after the draw -/
def SdOrd (slots : Nat) (rounds : Int) (per : Bool) (s : Nat × Nat) (srt ord : List Nat) : Prop :=
  (draws rounds per slots srt.length = false ∧ ord = srt) ∨
  (draws rounds per slots srt.length = true ∧ ∃ r, DrawR (srt.length - (slots - 1)) s r ∧ ord = (srt.set (slots - 1) srt[slots - 1 + r]!).set (slots - 1 + r) srt[slots - 1]!)
/-- what a seed's round makes of the list -/
def SdR (ns : List N) (slots : Nat) (rounds : Int) (per : Bool) (s : Nat × Nat) (ms : List N) : Prop :=
  ∃ srt ord : List Nat, srt.Perm (flt (isI ns) ns.length) ∧ (∀ i j, i < j → j < srt.length → sle ns srt[j]! srt[i]! = false) ∧ SdOrd slots rounds per s srt ord ∧ ms = upd (reg (ord.take slots)) ns

/-! ### the model, plain -/
def aheadS (ns : List N) (i j : Nat) : Bool := (j != i) && isI ns j && (sbef ns[j]! ns[i]! || (decide (j < i) && !sbef ns[i]! ns[j]!))
def rankS (ns : List N) (i : Nat) : Nat := (flt (aheadS ns i) ns.length).length
/-- d: what was drawn, where one was -/
def unS (ns : List N) (slots : Nat) (dr : Bool) (d i : Nat) : Bool := isI ns i && (if dr = true then decide (rankS ns i < slots - 1) || rankS ns i == slots - 1 + d else decide (rankS ns i < slots))

theorem rankS_sle {ns : List N} (h : STO (sle ns)) (i : Nat) : rankS ns i = (flt (fun j => isI ns j && sle ns j i) ns.length).length := by
  unfold rankS
  congr 1
  refine flt_congr fun j _ => ?_
  unfold aheadS
  by_cases e : j = i
  · subst e
    rw [h.swo.irrefl]; simp
  · have : (j != i) = true := by simpa using e
    rw [this, Bool.true_and]
    unfold sle slt
    rw [Bool.and_comm (!sbef ns[i]! ns[j]!)]

theorem top_rank {ns : List N} (h : STO (sle ns)) (m i : Nat) : top (sle ns) (isI ns) ns.length m i = (isI ns i && decide (rankS ns i < m)) := by
  unfold top; rw [rankS_sle h]

/-- an element's place is the number of those ahead -/
theorem rank_place {le : Nat → Nat → Bool} (h : STO le) {el : Nat → Bool} {n : Nat} {s : List Nat} (hp : s.Perm (flt el n)) (hs : ∀ i j, i < j → j < s.length → le s[j]! s[i]! = false) (p : Nat) (hpl : p < s.length) : (flt (fun j => el j && le j s[p]) n).length = p ∧ el s[p] = true ∧ s[p] < n := by
  have hl : (flt el n).Nodup := List.Pairwise.filter _ List.nodup_range
  have hm := flt_mem.1 (hp.mem_iff.1 (List.getElem_mem hpl))
  refine ⟨?_, hm.2, hm.1⟩
  have hr := rank h hp hl hs p hpl
  rw [getElem!_pos s p hpl] at hr
  refine Eq.trans ?_ hr
  rw [flt_count]
  unfold flt
  rw [List.countP_filter]
  exact List.countP_congr (fun j _ => by rw [Bool.and_comm])

theorem swapped_take (srt : List Nat) (k r : Nat) (h : k + r < srt.length) : ((srt.set k srt[k + r]!).set (k + r) srt[k]!).take (k + 1) = srt.take k ++ [srt[k + r]!] := by
  refine List.ext_getElem (by simp; omega) fun i h1 h2 => ?_
  simp only [List.length_take, List.length_set] at h1
  rw [List.getElem_take, List.getElem_set, List.getElem_set, List.getElem_append]
  by_cases hik : i < k
  · rw [if_neg (by omega), if_neg (by omega), dif_pos (by simp; omega), List.getElem_take]
  · have : i = k := by omega
    subst this
    rw [dif_neg (by simp; omega)]
    by_cases hr : r = 0
    · subst hr
      rw [if_pos (by omega)]; simp
    · rw [if_neg (by omega), if_pos rfl]; simp

/-- the round and the model -/
theorem seed_model {ns ms : List N} (h1 : ∀ i : Nat, Flt.nan ns[i]!.ra = false) (h2 : ∀ i : Nat, Flt.nan ns[i]!.ua = false) {slots : Nat} (hsl : 1 ≤ slots) {rounds : Int} {per : Bool} {s : Nat × Nat} (hd : SdR ns slots rounds per s ms) {d : Nat}
    (hdr : draws rounds per slots (flt (isI ns) ns.length).length = true → DrawR ((flt (isI ns) ns.length).length - (slots - 1)) s d) :
    ms.length = ns.length ∧ (∀ i, i < ns.length → (ms[i]!).same ns[i]!) ∧ ∀ i, i < ns.length → (ms[i]!).un = unS ns slots (draws rounds per slots (flt (isI ns) ns.length).length) d i ∧ (ms[i]!).op = false := by
  obtain ⟨srt, ord, hp, hs, ho, rfl⟩ := hd
  have hsto := sle_sto h1 h2
  rw [← hp.length_eq] at hdr ⊢
  have hc : ∀ i, i < ns.length → (ord.take slots).contains i = unS ns slots (draws rounds per slots srt.length) d i := by
    intro i hi
    unfold unS
    rcases ho with ⟨e, rfl⟩ | ⟨e, r, hr, rfl⟩
    · rw [e, rank_top hsto hp hs _ i hi, top_rank hsto]
      simp
    · rw [e]
      have hlen : slots ≤ srt.length := by
        unfold draws at e
        simp only [Bool.and_eq_true, decide_eq_true_eq] at e
        exact e.2
      have hrd := DrawR.one hr (hdr e)
      subst hrd
      have hrl : r < srt.length - (slots - 1) := DrawR.lt (by omega) hr
      obtain ⟨k, rfl⟩ : ∃ k, slots = k + 1 := ⟨slots - 1, by omega⟩
      simp only [Nat.add_sub_cancel] at hrl ⊢
      rw [swapped_take srt k r (by omega)]
      have hca : (srt.take k ++ [srt[k + r]!]).contains i = ((srt.take k).contains i || i == srt[k + r]!) := by
        cases hx : (srt.take k).contains i
        · rw [Bool.false_or]
          have hx' : i ∉ srt.take k := by
            intro hm
            rw [List.contains_iff_mem.2 hm] at hx
            cases hx
          by_cases hy : i = srt[k + r]!
          · rw [beq_iff_eq.2 hy, List.contains_iff_mem]
            rw [← hy]; simp
          · have : (i == srt[k + r]!) = false := by simpa using hy
            rw [this, Bool.eq_false_iff, Ne, List.contains_iff_mem]
            intro hm
            rcases List.mem_append.1 hm with h | h
            · exact hx' h
            · exact hy (by simpa using h)
        · rw [Bool.true_or, List.contains_iff_mem]
          exact List.mem_append.2 (.inl (List.contains_iff_mem.1 hx))
      rw [hca, rank_top hsto hp hs _ i hi, top_rank hsto, getElem!_pos srt (k + r) (by omega)]
      obtain ⟨q1, q2, q3⟩ := rank_place hsto hp hs (k + r) (by omega)
      rw [← rankS_sle hsto] at q1
      rw [if_pos trivial]
      by_cases hy : i = srt[k + r]
      · rw [beq_iff_eq.2 hy, hy, q1, q2]; simp
      · have hb : (i == srt[k + r]) = false := by simpa using hy
        rw [hb, Bool.or_false]
        cases hii : isI ns i
        · rfl
        · rw [Bool.true_and, Bool.true_and]
          have hne : (rankS ns i == k + r) = false := by
            rw [beq_eq_false_iff_ne]
            intro he
            apply hy
            have him : i ∈ srt := hp.mem_iff.2 (flt_mem.2 ⟨hi, hii⟩)
            obtain ⟨p, hpl, hpe⟩ := List.mem_iff_getElem.1 him
            have hq := (rank_place hsto hp hs p hpl).1
            rw [hpe, ← rankS_sle hsto, he] at hq
            subst hq
            exact hpe.symm
          rw [hne, Bool.or_false]
  refine ⟨upd_len _ _, fun i hi => ?_, fun i hi => ?_⟩
  · rw [upd_at _ _ _ hi]; exact ⟨rfl, rfl, rfl, rfl⟩
  · rw [upd_at _ _ _ hi]
    refine ⟨?_, rfl⟩
    show (ord.take slots).contains i = _
    rw [hc i hi]

end Go.Proofs.Qxb6612885a
