/-
  The stable sort's phases as plain laws: blocks by insertion, then merges of twice the size. No Go in this text.
-/
import Derived.Test.Qxb6612885aMerge
namespace Go.Proofs.Qxb6612885a
open Go.Sort
variable {α : Type} [Inhabited α] {lt le : α → α → Bool}

/-! ### insertion with 'lt' is insertion with 'le' where what comes later is compared alike -/
theorem insInner_perm (lt : α → α → Bool) (a i : Nat) : ∀ (j : Nat) (d : Array α), j ≤ i → i < d.size → PermIn a (i + 1) d (insInner lt a j d)
  | 0, d, _, _ => by unfold insInner; exact permIn_refl _ _ _
  | j + 1, d, hj, hi => by
    unfold insInner
    split
    · rename_i hc
      simp only [Bool.and_eq_true, decide_eq_true_eq] at hc
      have hs := swp_permIn d a (i + 1) (j + 1) j (by omega) (by omega) (by omega) (by omega) (by omega)
      exact permIn_trans _ _ _ _ _ hs (insInner_perm lt a i j _ (by omega) (by rw [size_swp]; exact hi))
    · exact permIn_refl _ _ _

theorem insInner_alike (a : Nat) : ∀ (j : Nat) (d : Array α), j < d.size → (∀ k, a ≤ k → k < j → lt d[j]! d[k]! = le d[j]! d[k]!) → insInner lt a j d = insInner le a j d
  | 0, d, _, _ => by unfold insInner; rfl
  | j + 1, d, hs, h => by
    unfold insInner
    by_cases hja : a < j + 1
    · have e := h j (by omega) (by omega)
      rw [e]
      by_cases hl : le d[j + 1]! d[j]! = true
      · have hc : (decide (j + 1 > a) && le d[j + 1]! d[j]!) = true := by simp [hl]; omega
        rw [if_pos hc, if_pos hc]
        refine insInner_alike a j _ (by rw [size_swp]; omega) fun k hk hkj => ?_
        rw [swp_right d _ _ (by omega), swp_other d _ _ k (by omega) (by omega)]
        exact h k hk (by omega)
      · have hc : ¬ (decide (j + 1 > a) && le d[j + 1]! d[j]!) = true := by simp [hl]
        rw [if_neg hc, if_neg hc]
    · have h1 : ¬ (decide (j + 1 > a) && lt d[j + 1]! d[j]!) = true := by simp; omega
      have h2 : ¬ (decide (j + 1 > a) && le d[j + 1]! d[j]!) = true := by simp; omega
      rw [if_neg h1, if_neg h2]

theorem insOuter_alike (a b : Nat) : ∀ (n i : Nat) (d : Array α), b - i = n → a < i → b ≤ d.size → (∀ p q, a ≤ p → p < q → q < b → i ≤ q → lt d[q]! d[p]! = le d[q]! d[p]!) → insOuter lt a b i d = insOuter le a b i d
  | 0, i, d, hn, _, _, _ => by rw [insOuter.eq_def (lt := lt), insOuter.eq_def (lt := le), if_neg (by omega), if_neg (by omega)]
  | n + 1, i, d, hn, hai, hb, h => by
    rw [insOuter.eq_def (lt := lt), if_pos (by omega), insOuter.eq_def (lt := le), if_pos (by omega)]
    rw [← insInner_alike (lt := lt) (le := le) a i d (by omega) (fun k hk hki => h k i hk hki (by omega) (Nat.le_refl _))]
    have hp := insInner_perm lt a i i d (Nat.le_refl _) (by omega)
    refine insOuter_alike a b n (i + 1) _ (by omega) (by omega) (by rw [hp.1]; exact hb) fun p q h1 h2 h3 h4 => ?_
    rw [hp.2.1 q (.inr h4)]
    by_cases c : p < i + 1
    · exact permIn_all d _ a (i + 1) (fun x => lt d[q]! x = le d[q]! x) (by omega) hp (fun k hk hki => h k q hk (by omega) h3 (by omega)) p h1 c
    · rw [hp.2.1 p (.inr (by omega))]
      exact h p q h1 h2 h3 (by omega)

theorem insertionSort_stable (hO : SWO le) (d : Array α) (a b : Nat) (hab : a ≤ b) (hb : b ≤ d.size) (h : ∀ p q, a ≤ p → p < q → q < b → lt d[q]! d[p]! = le d[q]! d[p]!) :
    PermIn a b d (insertionSort lt d a b) ∧ SortedIn le a b (insertionSort lt d a b) := by
  have e : insertionSort lt d a b = insertionSort le d a b := by
    unfold insertionSort
    exact insOuter_alike a b (b - (a + 1)) (a + 1) d rfl (by omega) hb (fun p q h1 h2 h3 _ => h p q h1 h2 h3)
  rw [e]
  exact insertionSort_holds hO d a b hab hb

/-! ### the phases -/
/-- All that lies left of x stands 'B' to all that lies from x on. -/
def Bd (B : α → α → Prop) (n x : Nat) (d : Array α) : Prop := ∀ i j, i < x → x ≤ j → j < n → B d[i]! d[j]!

theorem Bd.perm {B : α → α → Prop} {n x a b : Nat} {d d' : Array α} (h : Bd B n x d) (hp : PermIn a b d d') (hx : x ≤ a ∨ b ≤ x) (hb : b ≤ n) (hn : n ≤ d.size) : Bd B n x d' := by
  intro i j hi hj hjn
  rcases hx with hx | hx
  · rw [hp.2.1 i (.inl (by omega))]
    by_cases c : a ≤ j ∧ j < b
    · exact permIn_all d d' a b (fun y => B d[i]! y) (by omega) hp (fun k hk hkb => h i k hi (by omega) (by omega)) j c.1 c.2
    · rw [hp.2.1 j (by omega)]
      exact h i j hi hj hjn
  · rw [hp.2.1 j (.inr (by omega))]
    by_cases c : a ≤ i ∧ i < b
    · exact permIn_all d d' a b (fun y => B y d[j]!) (by omega) hp (fun k hk hkb => h k j (by omega) hj hjn) i c.1 c.2
    · rw [hp.2.1 i (by omega)]
      exact h i j hi hj hjn

theorem sorted_kept {p q a b : Nat} {d d' : Array α} (h : SortedIn le p q d) (hp : PermIn a b d d') (hx : q ≤ a ∨ b ≤ p) : SortedIn le p q d' := fun i j hi hij hj => by
  rw [hp.2.1 i (by omega), hp.2.1 j (by omega)]
  exact h i j hi hij hj

/-- The first phase, its blocks below a done. -/
structure Pre (le : α → α → Bool) (B : α → α → Prop) (n a : Nat) (d0 d : Array α) : Prop where
  perm : PermIn 0 n d0 d
  dvd : 20 ∣ a
  le_n : a ≤ n
  done : ∀ x, 20 ∣ x → x + 20 ≤ a → SortedIn le x (x + 20) d
  bd : ∀ x, 20 ∣ x → Bd B n x d
  rest : ∀ i j, a ≤ i → i < j → j < n → B d[i]! d[j]!

/-- Blocks of size s in order, and what lies in an earlier block came earlier. -/
structure Inv (le : α → α → Bool) (B : α → α → Prop) (n s : Nat) (d0 d : Array α) : Prop where
  perm : PermIn 0 n d0 d
  sorted : ∀ x, s ∣ x → SortedIn le x (min (x + s) n) d
  bd : ∀ x, s ∣ x → Bd B n x d

/-- A round of merges, those below a done. -/
structure Mid (le : α → α → Bool) (B : α → α → Prop) (n s a : Nat) (d0 d : Array α) : Prop where
  perm : PermIn 0 n d0 d
  dvd : 2 * s ∣ a
  le_n : a ≤ n
  done : ∀ x, 2 * s ∣ x → x + 2 * s ≤ a → SortedIn le x (x + 2 * s) d
  todo : ∀ x, s ∣ x → a ≤ x → SortedIn le x (min (x + s) n) d
  bd2 : ∀ x, 2 * s ∣ x → Bd B n x d
  bd1 : ∀ x, s ∣ x → a ≤ x → Bd B n x d

theorem dvd_gap {s a x : Nat} (ha : s ∣ a) (hx : s ∣ x) (h : a ≤ x) : x = a ∨ a + s ≤ x := by
  have hd : s ∣ x - a := Nat.dvd_sub hx ha
  by_cases c : x - a < s
  · left
    have := Nat.eq_zero_of_dvd_of_lt hd c
    omega
  · right; omega

variable {B : α → α → Prop} {n a s : Nat} {d0 d : Array α}

theorem pre_start (h : ∀ i j, i < j → j < n → B d0[i]! d0[j]!) : Pre le B n 0 d0 d0 where
  perm := permIn_refl _ _ _
  dvd := ⟨0, rfl⟩
  le_n := Nat.zero_le _
  done := fun x _ h => by omega
  bd := fun x _ i j hi hj hn => h i j (by omega) hn
  rest := fun i j _ hij hj => h i j hij hj

theorem Pre.block (hO : SWO le) (hB : ∀ x y, B x y → lt y x = le y x) (h : Pre le B n a d0 d) (hn : d0.size = n) {b : Nat} (hab : a ≤ b) (hb : b ≤ n) :
    PermIn a b d (insertionSort lt d a b) ∧ SortedIn le a b (insertionSort lt d a b) :=
  insertionSort_stable hO d a b hab (by rw [h.perm.1, hn]; exact hb) (fun p q h1 h2 h3 => hB _ _ (h.rest p q h1 h2 (by omega)))

theorem pre_step (hO : SWO le) (hB : ∀ x y, B x y → lt y x = le y x) (h : Pre le B n a d0 d) (hn : d0.size = n) (hb : a + 20 ≤ n) : Pre le B n (a + 20) d0 (insertionSort lt d a (a + 20)) := by
  obtain ⟨p, so⟩ := h.block hO hB hn (b := a + 20) (by omega) hb
  have hs : d.size = n := by rw [h.perm.1, hn]
  refine ⟨permIn_trans _ _ _ _ _ h.perm (permIn_mono _ _ a (a + 20) 0 n (by omega) hb (by omega) p), Nat.dvd_add h.dvd (Nat.dvd_refl 20), hb, fun x hx hxa => ?_, fun x hx => ?_, fun i j hi hij hj => ?_⟩
  · by_cases c : x = a
    · rw [c]; exact so
    · have : x + 20 ≤ a := by
        rcases Nat.lt_or_ge x a with c1 | c1
        · have := dvd_gap hx h.dvd (by omega); omega
        · have := dvd_gap h.dvd hx c1; omega
      exact sorted_kept (h.done x hx this) p (.inl this)
  · refine (h.bd x hx).perm p ?_ hb (by omega)
    rcases Nat.lt_or_ge a x with c1 | c1
    · have := dvd_gap h.dvd hx (by omega); omega
    · exact .inl c1
  · rw [p.2.1 i (.inr hi), p.2.1 j (.inr (by omega))]
    exact h.rest i j (by omega) hij hj

theorem pre_end (hO : SWO le) (hB : ∀ x y, B x y → lt y x = le y x) (h : Pre le B n a d0 d) (hn : d0.size = n) (hb : n < a + 20) : Inv le B n 20 d0 (insertionSort lt d a n) := by
  obtain ⟨p, so⟩ := h.block hO hB hn (b := n) h.le_n (Nat.le_refl _)
  have hs : d.size = n := by rw [h.perm.1, hn]
  refine ⟨permIn_trans _ _ _ _ _ h.perm (permIn_mono _ _ a n 0 n (by omega) (Nat.le_refl _) (by omega) p), fun x hx => ?_, fun x hx => ?_⟩
  · rcases Nat.lt_or_ge x a with c1 | c1
    · have g := dvd_gap hx h.dvd (by omega)
      have e : min (x + 20) n = x + 20 := by have := h.le_n; omega
      rw [e]
      exact sorted_kept (h.done x hx (by omega)) p (.inl (by omega))
    · rcases dvd_gap h.dvd hx c1 with rfl | g
      · intro i j hi hij hj
        exact so i j hi hij (by omega)
      · intro i j hi hij hj; omega
  · rcases Nat.lt_or_ge a x with c1 | c1
    · have := dvd_gap h.dvd hx (by omega)
      intro i j hi hj hjn; omega
    · exact (h.bd x hx).perm p (.inl c1) (Nat.le_refl _) (by omega)

theorem mid_start (h : Inv le B n s d0 d) : Mid le B n s 0 d0 d where
  perm := h.perm
  dvd := ⟨0, rfl⟩
  le_n := Nat.zero_le _
  done := fun x _ hx => by
    intro i j hi hij hj; omega
  todo := fun x hx _ => h.sorted x hx
  bd2 := fun x hx => h.bd x (Nat.dvd_trans ⟨2, by omega⟩ hx)
  bd1 := fun x hx _ => h.bd x hx

theorem Mid.merge (hO : SWO le) (hB : ∀ x y, B x y → lt y x = le y x) (h : Mid le B n s a d0 d) (hn : d0.size = n) {b f : Nat} (_hs : 0 < s) (h1 : a + s < b) (h2 : b ≤ n) (h3 : b ≤ a + 2 * s) (hf : b - a ≤ f) :
    PermIn a b d (symMerge lt f d a (a + s) b) ∧ SortedIn le a b (symMerge lt f d a (a + s) b) := by
  have hds : s ∣ a := Nat.dvd_trans ⟨2, by omega⟩ h.dvd
  have hds2 : s ∣ a + s := Nat.dvd_add hds (Nat.dvd_refl s)
  refine symMerge_holds hO f d a (a + s) b hf (by omega) h1 (by rw [h.perm.1, hn]; exact h2) ?_ ?_ (fun i j hi him hj hjb => hB _ _ (h.bd1 (a + s) hds2 (by omega) i j him hj (by omega)))
  · have := h.todo a hds (Nat.le_refl _)
    rwa [show min (a + s) n = a + s by omega] at this
  · have := h.todo (a + s) hds2 (by omega)
    intro i j hi hij hj
    exact this i j hi hij (by omega)

theorem mid_step (hO : SWO le) (hB : ∀ x y, B x y → lt y x = le y x) (h : Mid le B n s a d0 d) (hn : d0.size = n) (hs : 0 < s) {f : Nat} (hb : a + 2 * s ≤ n) (hf : 2 * s ≤ f) : Mid le B n s (a + 2 * s) d0 (symMerge lt f d a (a + s) (a + 2 * s)) := by
  obtain ⟨p, so⟩ := h.merge hO hB hn (b := a + 2 * s) (f := f) hs (by omega) hb (Nat.le_refl _) (by omega)
  have hsz : d.size = n := by rw [h.perm.1, hn]
  have hds : s ∣ a := Nat.dvd_trans ⟨2, by omega⟩ h.dvd
  refine ⟨permIn_trans _ _ _ _ _ h.perm (permIn_mono _ _ a (a + 2 * s) 0 n (by omega) hb (by omega) p), Nat.dvd_add h.dvd (Nat.dvd_refl _), hb, fun x hx hxa => ?_, fun x hx hax => ?_, fun x hx => ?_, fun x hx hax => ?_⟩
  · by_cases c : x = a
    · rw [c]; exact so
    · have : x + 2 * s ≤ a := by
        rcases Nat.lt_or_ge x a with c1 | c1
        · have := dvd_gap hx h.dvd (by omega); omega
        · have := dvd_gap h.dvd hx c1; omega
      exact sorted_kept (h.done x hx this) p (.inl this)
  · exact sorted_kept (h.todo x hx (by omega)) p (.inr hax)
  · refine (h.bd2 x hx).perm p ?_ hb (by omega)
    rcases Nat.lt_or_ge a x with c1 | c1
    · have := dvd_gap h.dvd hx (by omega); omega
    · exact .inl c1
  · exact (h.bd1 x hx (by omega)).perm p (.inr hax) hb (by omega)

theorem mid_end1 (hO : SWO le) (hB : ∀ x y, B x y → lt y x = le y x) (h : Mid le B n s a d0 d) (hn : d0.size = n) (hs : 0 < s) {f : Nat} (hb : n < a + 2 * s) (hm : a + s < n) (hf : n - a ≤ f) : Inv le B n (2 * s) d0 (symMerge lt f d a (a + s) n) := by
  obtain ⟨p, so⟩ := h.merge hO hB hn (b := n) (f := f) hs hm (Nat.le_refl _) (by omega) hf
  have hsz : d.size = n := by rw [h.perm.1, hn]
  refine ⟨permIn_trans _ _ _ _ _ h.perm (permIn_mono _ _ a n 0 n (by omega) (Nat.le_refl _) (by omega) p), fun x hx => ?_, fun x hx => ?_⟩
  · rcases Nat.lt_or_ge x a with c1 | c1
    · have g := dvd_gap hx h.dvd (by omega)
      have e : min (x + 2 * s) n = x + 2 * s := by have := h.le_n; omega
      rw [e]
      exact sorted_kept (h.done x hx (by omega)) p (.inl (by omega))
    · rcases dvd_gap h.dvd hx c1 with rfl | g
      · intro i j hi hij hj
        exact so i j hi hij (by omega)
      · intro i j hi hij hj; omega
  · rcases Nat.lt_or_ge a x with c1 | c1
    · have := dvd_gap h.dvd hx (by omega)
      intro i j hi hj hjn; omega
    · exact (h.bd2 x hx).perm p (.inl c1) (Nat.le_refl _) (by omega)

theorem mid_end2 (h : Mid le B n s a d0 d) (hm : n ≤ a + s) : Inv le B n (2 * s) d0 d := by
  have hds : s ∣ a := Nat.dvd_trans ⟨2, by omega⟩ h.dvd
  refine ⟨h.perm, fun x hx => ?_, fun x hx => h.bd2 x hx⟩
  rcases Nat.lt_or_ge x a with c1 | c1
  · have g := dvd_gap hx h.dvd (by omega)
    have e : min (x + 2 * s) n = x + 2 * s := by have := h.le_n; omega
    rw [e]
    exact h.done x hx (by omega)
  · rcases dvd_gap h.dvd hx c1 with rfl | g
    · have := h.todo x hds (Nat.le_refl _)
      intro i j hi hij hj
      exact this i j hi hij (by omega)
    · intro i j hi hij hj; omega

theorem inv_end (h : Inv le B n s d0 d) (hs : n ≤ s) : PermIn 0 n d0 d ∧ SortedIn le 0 n d := by
  refine ⟨h.perm, ?_⟩
  have := h.sorted 0 ⟨0, rfl⟩
  rwa [show min (0 + s) n = n by omega] at this

end Go.Proofs.Qxb6612885a
