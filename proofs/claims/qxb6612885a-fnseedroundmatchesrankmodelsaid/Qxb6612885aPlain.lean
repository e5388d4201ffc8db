/-
  A downloading round and the model answer alike; a second round changes nothing. Plain: no Go here.
-/
import Derived.Test.Qxb6612885aModel
namespace Go.Proofs.Qxb6612885a
open Go.RowKit Go.Sort

theorem flt_congr {p q : Nat → Bool} {k : Nat} (h : ∀ i, i < k → p i = q i) : flt p k = flt q k :=
  List.filter_congr (fun i hi => h i (by simpa using hi))
theorem flt_count (p : Nat → Bool) (k : Nat) : (flt p k).length = (List.range k).countP p := List.countP_eq_length_filter.symm
theorem flt_mono {p q : Nat → Bool} {k : Nat} (h : ∀ i, i < k → p i = true → q i = true) : (flt p k).length ≤ (flt q k).length := by
  rw [flt_count, flt_count]
  exact List.countP_mono_left (fun i hi => h i (by simpa using hi))

/-- ranked among the first m of those that el names -/
def top (le : Nat → Nat → Bool) (el : Nat → Bool) (n m i : Nat) : Bool := el i && decide ((flt (fun j => el j && le j i) n).length < m)

theorem take_contains {s : List Nat} (hn : s.Nodup) (m p : Nat) (hp : p < s.length) : (s.take m).contains s[p] = decide (p < m) := by
  by_cases h : p < m
  · rw [decide_eq_true h, List.contains_iff_mem]
    exact List.mem_take_iff_getElem.2 ⟨p, by omega, rfl⟩
  · rw [decide_eq_false h, Bool.eq_false_iff, Ne, List.contains_iff_mem]
    intro hm
    obtain ⟨q, hq, he⟩ := List.mem_take_iff_getElem.1 hm
    have := (List.getElem_inj hn).1 he
    omega

theorem rank_top {le : Nat → Nat → Bool} (h : STO le) {el : Nat → Bool} {n : Nat} {s : List Nat} (hp : s.Perm (flt el n)) (hs : ∀ i j, i < j → j < s.length → le s[j]! s[i]! = false) (m i : Nat) (hi : i < n) : (s.take m).contains i = top le el n m i := by
  have hl : (flt el n).Nodup := List.Pairwise.filter _ List.nodup_range
  have hnd : s.Nodup := hp.nodup_iff.2 hl
  unfold top
  cases he : el i
  · rw [Bool.false_and, Bool.eq_false_iff, Ne, List.contains_iff_mem]
    intro hm
    have := (flt_mem.1 (hp.mem_iff.1 (List.mem_of_mem_take hm))).2
    rw [he] at this
    cases this
  · have him : i ∈ s := hp.mem_iff.2 (flt_mem.2 ⟨hi, he⟩)
    obtain ⟨p, hpl, rfl⟩ := List.mem_iff_getElem.1 him
    rw [take_contains hnd m p hpl, Bool.true_and]
    have hr := rank h hp hl hs p hpl
    rw [getElem!_pos s p hpl] at hr
    have : (flt (fun j => el j && le j s[p]) n).length = p := by
      refine Eq.trans ?_ hr
      rw [flt_count]
      unfold flt
      rw [List.countP_filter]
      exact List.countP_congr (fun j _ => by rw [Bool.and_comm])
    rw [this]

/-- one who is not among the first m may leave -/
theorem top_leave {le : Nat → Nat → Bool} (h : STO le) {el : Nat → Bool} {n m c : Nat} (hc : top le el n m c = false) (i : Nat) : top le (fun j => el j && j != c) n m i = top le el n m i := by
  have hcc : ∀ j, (el j && j != c) = true → el j = true := fun j hj => by simp at hj; exact hj.1
  unfold top at hc ⊢
  by_cases hic : i = c
  · subst hic
    rw [hc]; simp
  · have hne : (i != c) = true := by simpa using hic
    show ((el i && i != c) && decide ((flt (fun j => (el j && j != c) && le j i) n).length < m)) = _
    rw [hne, Bool.and_true]
    cases he : el i
    · rfl
    · rw [Bool.true_and, Bool.true_and]
      cases hec : el c && le c i
      · congr 2
        congr 1
        refine flt_congr fun j _ => ?_
        by_cases hjc : j = c
        · subst hjc; rw [hec]; simp
        · have : (j != c) = true := by simpa using hjc
          rw [this, Bool.and_true]
      · simp only [Bool.and_eq_true] at hec
        rw [hec.1, Bool.true_and] at hc
        have hc' := of_decide_eq_false hc
        have h1 : (flt (fun j => el j && le j c) n).length ≤ (flt (fun j => (el j && j != c) && le j i) n).length := flt_mono fun j _ hj => by
          simp only [Bool.and_eq_true] at hj
          have hjc : j ≠ c := fun e => by subst e; rw [h.swo.irrefl] at hj; cases hj.2
          simp only [Bool.and_eq_true, bne_iff_ne, ne_eq]
          exact ⟨⟨hj.1, hjc⟩, h.swo.trans _ _ _ hj.2 hec.2⟩
        have h2 : (flt (fun j => (el j && j != c) && le j i) n).length ≤ (flt (fun j => el j && le j i) n).length := flt_mono fun j _ hj => by
          simp only [Bool.and_eq_true] at hj ⊢
          exact ⟨hj.1.1, hj.2⟩
        rw [decide_eq_false (by omega), decide_eq_false (by omega)]

theorem dle_ahead {ns : List N} (h : ∀ i : Nat, Flt.nan ns[i]!.ra = false) (j i : Nat) : dle ns j i = (Flt.gt ns[j]!.ra ns[i]!.ra || (decide (j < i) && Flt.eq ns[j]!.ra ns[i]!.ra)) := by
  unfold dle
  rw [dlt_key h, dlt_key h, Flt.gt_key (h j) (h i), Flt.eq_key (h j) (h i)]
  generalize Flt.key ns[j]!.ra = x
  generalize Flt.key ns[i]!.ra = y
  by_cases h1 : y < x
  · simp [h1]
  · rw [decide_eq_false h1, Bool.false_or, Bool.false_or]
    by_cases h2 : x < y
    · have : x ≠ y := by omega
      simp [h2, this]
    · have : x = y := by omega
      simp [this]

theorem unM_top {ns : List N} (h : ∀ i : Nat, Flt.nan ns[i]!.ra = false) {slots : Nat} (hsl : 1 ≤ slots) (now : Nat) (rt : Bool) (kp : Int) (i : Nat) : unM ns slots now rt kp i = top (dle ns) (elig ns now rt kp) ns.length (slots - 1) i := by
  unfold unM top
  have e : flt (aheadM ns now rt kp i) ns.length = flt (fun j => elig ns now rt kp j && dle ns j i) ns.length := flt_congr fun j _ => by
    unfold aheadM; rw [dle_ahead h]
  rw [e]
  congr 1
  by_cases h1 : (flt (fun j => elig ns now rt kp j && dle ns j i) ns.length).length < slots - 1
  · rw [decide_eq_true h1, decide_eq_true (by omega)]
  · rw [decide_eq_false h1, decide_eq_false (by omega)]

theorem cand_same {ns : List N} {slots now : Nat} {rt : Bool} {kp : Int} {rg : List Nat} (hrg : ∀ i, i < ns.length → rg.contains i = unM ns slots now rt kp i) : flt (cand ns rg kp) ns.length = flt (candM ns slots now rt kp) ns.length :=
  flt_congr fun i hi => by unfold cand candM; rw [hrg i hi]

theorem opt_same {ns : List N} {slots now at_ at' : Nat} {rt : Bool} {rg : List Nat} {s : Nat × Nat} {opt ch : Int} (hrg : ∀ i, i < ns.length → rg.contains i = unM ns slots now rt (keptTo ns ns.length) i)
    (ho : OptR ns rg (keptTo ns ns.length) rt now at_ s opt at') (hm : MOpt ns slots now rt (keptTo ns ns.length) s ch) : opt = ch := by
  have hkr := keptTo_range ns ns.length
  unfold OptR at ho
  unfold MOpt at hm
  rw [cand_same hrg] at ho
  rcases ho with ⟨h1, rfl, _⟩ | ⟨h1, h2, _, r, hr, rfl⟩ | ⟨h1, h2, _, h3⟩
  · rcases hm with ⟨_, rfl⟩ | ⟨h, _⟩ | ⟨h, _⟩
    · rfl
    · rw [h1] at h; cases h
    · rw [h1] at h; cases h
  · rcases hm with ⟨h, _⟩ | ⟨_, _, r', hr', rfl⟩ | ⟨_, h, _⟩
    · rw [h1] at h; cases h
    · rw [DrawR.one hr hr']
    · exact absurd h h2
  · rcases hm with ⟨h, _⟩ | ⟨_, h, _⟩ | ⟨_, _, h4⟩
    · rw [h1] at h; cases h
    · exact absurd h2 h
    · rw [h3, h4]
      by_cases hk : 0 ≤ keptTo ns ns.length
      · rw [hrg _ (by omega)]
      · rw [decide_eq_false hk]; rfl

/-- the round and the model -/
theorem down_model {ns ms : List N} (hnan : ∀ i : Nat, Flt.nan ns[i]!.ra = false) {slots now at_ at' : Nat} (hsl : 1 ≤ slots) {s : Nat × Nat} {rt : Bool} {ch : Int} (hd : DlR ns slots now at_ s ms at')
    (hrt : rt = rot now at_ (decide (0 ≤ keptTo ns ns.length))) (hm : MOpt ns slots now rt (keptTo ns ns.length) s ch) :
    ms.length = ns.length ∧ (∀ i, i < ns.length → (ms[i]!).same ns[i]!) ∧ ∀ i, i < ns.length → (ms[i]!).un = (unM ns slots now rt (keptTo ns ns.length) i || (i : Int) == ch) ∧ (ms[i]!).op = ((i : Int) == ch) := by
  obtain ⟨rt', srt, opt, h1, h2, h3, h4, rfl⟩ := hd
  rw [← hrt] at h1
  subst h1
  have hrg : ∀ i, i < ns.length → (srt.take (slots - 1)).contains i = unM ns slots now rt' (keptTo ns ns.length) i := fun i hi => by
    rw [rank_top (dle_sto hnan) h2 h3 _ i hi, unM_top hnan hsl]
  have := opt_same hrg h4 hm
  subst this
  refine ⟨upd_len _ _, fun i hi => ?_, fun i hi => ?_⟩
  · rw [upd_at _ _ _ hi]; exact ⟨rfl, rfl, rfl, rfl⟩
  · rw [upd_at _ _ _ hi]
    refine ⟨?_, rfl⟩
    show ((srt.take (slots - 1)).contains i || (i : Int) == opt) = _
    rw [hrg i hi]

/-! ### a second round -/
theorem keptTo_fin (ns : List N) (rg : List Nat) (opt : Int) (h1 : -1 ≤ opt) : ∀ k, k ≤ ns.length → keptTo (upd (fin rg opt) ns) k = if opt < k then opt else -1
  | 0, _ => by
    by_cases h : opt < (0 : Nat)
    · rw [if_pos h]; simp [keptTo]; omega
    · rw [if_neg h]; rfl
  | k + 1, hk => by
    have ih := keptTo_fin ns rg opt h1 k (by omega)
    have e : keptTo (upd (fin rg opt) ns) (k + 1) = if (upd (fin rg opt) ns)[k]!.op && (upd (fin rg opt) ns)[k]!.un then (k : Int) else keptTo (upd (fin rg opt) ns) k := rfl
    have e2 : ((upd (fin rg opt) ns)[k]!.op && (upd (fin rg opt) ns)[k]!.un) = ((k : Int) == opt) := by
      rw [upd_at _ _ _ (by omega)]
      show (((k : Int) == opt) && (rg.contains k || (k : Int) == opt)) = _
      cases (k : Int) == opt <;> simp
    rw [e, e2, ih]
    by_cases h : (k : Int) = opt
    · have : ((k : Int) == opt) = true := by simpa using h
      rw [if_pos this, if_pos (by omega), h]
    · have : ¬ ((k : Int) == opt) = true := by simpa using h
      rw [if_neg this]
      by_cases h2 : opt < (k : Int)
      · rw [if_pos h2, if_pos (by omega)]
      · rw [if_neg h2, if_neg (by omega)]

theorem upd_ra (ns : List N) (rg : List Nat) (opt : Int) (i : Nat) : (upd (fin rg opt) ns)[i]!.ra = ns[i]!.ra ∧ (upd (fin rg opt) ns)[i]!.it = ns[i]!.it ∧ (upd (fin rg opt) ns)[i]!.ld = ns[i]!.ld ∧ (upd (fin rg opt) ns)[i]!.ua = ns[i]!.ua := by
  by_cases h : i < ns.length
  · rw [upd_at _ _ _ h]; exact ⟨rfl, rfl, rfl, rfl⟩
  · rw [getElem!_neg (upd (fin rg opt) ns) i (by rw [upd_len]; exact h), getElem!_neg ns i h]; exact ⟨rfl, rfl, rfl, rfl⟩

theorem opt_range {ns : List N} {rg : List Nat} {rt : Bool} {now at_ at' : Nat} {s : Nat × Nat} {opt : Int} (h : OptR ns rg (keptTo ns ns.length) rt now at_ s opt at') : -1 ≤ opt ∧ opt < ns.length := by
  have hkr := keptTo_range ns ns.length
  rcases h with ⟨_, rfl, _⟩ | ⟨_, h2, _, r, hr, rfl⟩ | ⟨_, _, _, rfl⟩
  · exact hkr
  · have hl : r < (flt (cand ns rg (keptTo ns ns.length)) ns.length).length := DrawR.lt (List.length_pos_iff.2 h2) hr
    have := (flt_mem.1 (List.getElem_mem hl)).1
    rw [getElem!_pos _ r hl]
    omega
  · split <;> omega

/-- a second round at the same time leaves all as it is -/
theorem down_again {ns ms ms2 : List N} (hnan : ∀ i : Nat, Flt.nan ns[i]!.ra = false) {slots now at_ at' at2 : Nat} {s s2 : Nat × Nat} (hd : DlR ns slots now at_ s ms at') (hd2 : DlR ms slots now at' s2 ms2 at2) :
    ms2.length = ns.length ∧ ∀ i, i < ns.length → ms2[i]! = ms[i]! := by
  obtain ⟨rt, srt, opt, h1, h2, h3, h4, rfl⟩ := hd
  obtain ⟨rt2, srt2, opt2, g1, g2, g3, g4, rfl⟩ := hd2
  have hor := opt_range h4
  have hkr := keptTo_range ns ns.length
  rw [upd_len] at g1 g2 g4
  have hk2 : keptTo (upd (fin (srt.take (slots - 1)) opt) ns) ns.length = opt := by rw [keptTo_fin _ _ _ hor.1 _ (Nat.le_refl _), if_pos hor.2]
  rw [hk2] at g1 g2 g4
  obtain ⟨rg, hrgd⟩ : ∃ rg, rg = srt.take (slots - 1) := ⟨_, rfl⟩
  obtain ⟨rg2, hrg2d⟩ : ∃ rg, rg = srt2.take (slots - 1) := ⟨_, rfl⟩
  rw [← hrgd] at h4 g2 g3 g4 ⊢
  rw [← hrg2d] at g4 ⊢
  have hdle : dle (upd (fin rg opt) ns) = dle ns := by
    funext x y
    unfold dle dlt
    rw [(upd_ra ns rg opt x).1, (upd_ra ns rg opt y).1]
  have hel : ∀ rt kp, elig (upd (fin rg opt) ns) now rt kp = elig ns now rt kp := fun rt kp => by
    funext x
    unfold elig
    rw [(upd_ra ns rg opt x).2.1, (upd_ra ns rg opt x).2.2.1]
  have hcd : ∀ rgx kp, cand (upd (fin rg opt) ns) rgx kp = cand ns rgx kp := fun rgx kp => by
    funext x
    unfold cand
    rw [(upd_ra ns rg opt x).2.1]
  rw [hdle] at g3
  rw [hel] at g2
  have hsto := dle_sto hnan
  generalize hkp : keptTo ns ns.length = kp at *
  have T1 : ∀ i, i < ns.length → rg.contains i = top (dle ns) (elig ns now rt kp) ns.length (slots - 1) i := fun i hi => by rw [hrgd]; exact rank_top hsto h2 h3 _ i hi
  have T2 : ∀ i, i < ns.length → rg2.contains i = top (dle ns) (elig ns now rt2 opt) ns.length (slots - 1) i := fun i hi => by rw [hrg2d]; exact rank_top hsto g2 g3 _ i hi
  have hfin : (∀ i, i < ns.length → rg2.contains i = rg.contains i) → opt2 = opt → (upd (fin rg2 opt2) (upd (fin rg opt) ns)).length = ns.length ∧ ∀ i, i < ns.length → (upd (fin rg2 opt2) (upd (fin rg opt) ns))[i]! = (upd (fin rg opt) ns)[i]! := fun hrr hoo => by
    refine ⟨by rw [upd_len, upd_len], fun i hi => ?_⟩
    rw [upd_at _ _ _ (by rw [upd_len]; exact hi), upd_at _ _ _ hi]
    simp only [fin]
    rw [hrr i hi, hoo]
  unfold OptR at g4
  rw [upd_len, hcd] at g4
  rcases h4 with ⟨a1, rfl, rfl⟩ | ⟨a1, a2, hat, r, hr, hopt⟩ | ⟨a1, a2, rfl, hopt⟩
  · -- nobody was drawn
    have e : rt2 = rt := by rw [g1, h1]
    subst e
    refine hfin (fun i hi => by rw [T1 i hi, T2 i hi]) ?_
    rcases g4 with ⟨_, h, _⟩ | ⟨h, _⟩ | ⟨h, _⟩
    · exact h
    · rw [a1] at h; cases h
    · rw [a1] at h; cases h
  · -- one was drawn
    have hl : r < (flt (cand ns rg kp) ns.length).length := DrawR.lt (List.length_pos_iff.2 a2) hr
    have hmem := flt_mem.1 (List.getElem_mem hl)
    rw [getElem!_pos _ r hl] at hopt
    generalize (flt (cand ns rg kp) ns.length)[r] = c at *
    subst hopt
    have e : rt2 = false := by
      rw [g1, hat, decide_eq_true (by omega)]
      unfold rot
      rw [Flt.subGe_self]; rfl
    subst a1
    subst e
    have hcn : rg.contains c = false := by
      have := hmem.2
      unfold cand at this
      simp only [Bool.and_eq_true, Bool.not_eq_true'] at this
      exact this.1.2
    have hee : elig ns now false (c : Int) = fun j => elig ns now true kp j && j != c := by
      funext j
      unfold elig
      have : ((j : Int) != (c : Int)) = (j != c) := by
        by_cases h : j = c
        · subst h; simp
        · have h' : (j : Int) ≠ (c : Int) := by omega
          rw [bne_iff_ne.2 h, bne_iff_ne.2 h']
      rw [this, Bool.false_or, Bool.true_or, Bool.and_true]
    refine hfin (fun i hi => ?_) ?_
    · rw [T1 i hi, T2 i hi, hee]
      exact top_leave hsto (by rw [← T1 c hmem.1]; exact hcn) i
    · rcases g4 with ⟨_, h, _⟩ | ⟨h, _⟩ | ⟨h, _⟩
      · exact h
      · cases h
      · cases h
  · -- nobody was there to be drawn
    subst a1
    have hno : ∀ i, i < ns.length → cand ns rg kp i = false := fun i hi => by
      rw [Bool.eq_false_iff]
      intro h
      have := flt_mem.2 ⟨hi, h⟩
      rw [a2] at this
      cases this
    have e2 : rt2 = true := by
      rw [g1]
      by_cases ho : 0 ≤ opt
      · have hk0 : opt = kp := by
          rw [hopt]; split
          · rename_i h; rw [hopt, if_pos h] at ho; omega
          · rfl
        rw [hk0, ← h1]
      · rw [decide_eq_false ho]; rfl
    subst e2
    have hee : ∀ kp', elig ns now true kp' = elig ns now true kp := fun kp' => by
      funext j; unfold elig; rw [Bool.true_or, Bool.true_or]
    have hrr : ∀ i, i < ns.length → rg2.contains i = rg.contains i := fun i hi => by rw [T1 i hi, T2 i hi, hee opt]
    refine hfin hrr ?_
    have hcc : flt (cand ns rg2 opt) ns.length = [] := by
      refine List.eq_nil_iff_forall_not_mem.2 fun i hm => ?_
      obtain ⟨hi, hc⟩ := flt_mem.1 hm
      have hn := hno i hi
      unfold cand at hc hn
      rw [hrr i hi] at hc
      simp only [Bool.and_eq_true, Bool.not_eq_true', bne_iff_ne, ne_eq] at hc
      rw [hc.1.1, hc.1.2] at hn
      simp at hn
      -- i is the one kept
      rw [hopt] at hc
      by_cases h : (decide (0 ≤ kp) && rg.contains kp.toNat) = true
      · simp only [Bool.and_eq_true] at h
        have : kp.toNat = i := by omega
        rw [this, hc.1.2] at h
        cases h.2
      · rw [if_neg h] at hc
        exact hc.2 hn
    rw [hcc] at g4
    rcases g4 with ⟨h, _⟩ | ⟨_, h, _⟩ | ⟨_, _, _, h⟩
    · cases h
    · exact absurd rfl h
    · rw [h]
      by_cases ho : 0 ≤ opt
      · have hk0 : (decide (0 ≤ kp) && rg.contains kp.toNat) = false := by
          rw [Bool.eq_false_iff]
          intro h
          rw [hopt, if_pos h] at ho
          omega
        have hk1 : opt = kp := by rw [hopt, hk0]; rfl
        rw [hrr _ (by omega), hk1, hk0]
        rfl
      · rw [decide_eq_false ho]; rfl

end Go.Proofs.Qxb6612885a
