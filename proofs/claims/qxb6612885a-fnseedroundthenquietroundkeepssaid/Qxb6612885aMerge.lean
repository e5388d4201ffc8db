/-
  symMerge as a plain function, and that it merges stably. No Go in this text.
-/
import Derived.Test.Qxb6612885aSym
namespace Go.Proofs.Qxb6612885a
open Go.Sort
variable {α : Type} [Inhabited α]

theorem rotate_get (d : Array α) (a m b : Nat) {k : Nat} (h : k < d.size) : (rotate d a m b)[k]! = d[rtIx a m b k]! := gather_get d _ h

theorem range'_map_shift {β : Type} (s n t : Nat) (f : Nat → β) : (List.range' s n).map (fun k => f (k + t)) = (List.range' (s + t) n).map f := by
  apply List.ext_getElem
  · simp
  · intro i h1 h2
    simp
    congr 1
    omega

theorem rotate_permIn (d : Array α) (a m b : Nat) (h1 : a ≤ m) (h2 : m ≤ b) (h3 : b ≤ d.size) : PermIn a b d (rotate d a m b) := by
  refine ⟨size_rotate _ _ _ _, fun i hi => ?_, ?_⟩
  · by_cases hs : i < d.size
    · rw [rotate_get d a m b hs]; unfold rtIx; rw [if_pos hi]
    · rw [getElem!_neg _ i (by rw [size_rotate]; exact hs), getElem!_neg d i hs]
  · rw [extract_toList _ a b (by rw [size_rotate]; exact h3), extract_toList d a b h3]
    have e1 : List.range' a (b - a) = List.range' a (b - m) ++ List.range' (a + (b - m)) (m - a) := by
      rw [List.range'_append_1]; congr 1; omega
    have e2 : List.range' a (b - a) = List.range' a (m - a) ++ List.range' m (b - m) := by
      have : m = a + (m - a) := by omega
      conv => rhs; rhs; rw [this]
      rw [List.range'_append_1]; congr 1; omega
    rw [e1, List.map_append]
    have p1 : (List.range' a (b - m)).map (fun i => (rotate d a m b)[i]!) = (List.range' m (b - m)).map (fun i => d[i]!) := by
      rw [show m = a + (m - a) by omega, show b - (a + (m - a)) = b - m by omega, ← range'_map_shift a (b - m) (m - a) (fun i => d[i]!)]
      refine List.map_congr_left fun k hk => ?_
      have hk' := List.mem_range'_1.1 hk
      rw [rotate_get d _ _ b (by omega)]
      unfold rtIx
      rw [if_neg (by omega), if_pos (by omega)]
      rw [show a + (m - a) - a = m - a by omega]
    have p2 : (List.range' (a + (b - m)) (m - a)).map (fun i => (rotate d a m b)[i]!) = (List.range' a (m - a)).map (fun i => d[i]!) := by
      rw [← range'_map_shift a (m - a) (b - m) (fun i => (rotate d a m b)[i]!)]
      refine List.map_congr_left fun k hk => ?_
      have hk' := List.mem_range'_1.1 hk
      show (rotate d a m b)[k + (b - m)]! = _
      rw [rotate_get d _ _ b (by omega)]
      unfold rtIx
      rw [if_neg (by omega), if_neg (by omega)]
      rw [show k + (b - m) - (b - m) = k by omega]
    rw [p1, p2, ← e1, e2, List.map_append]
    exact List.perm_append_comm

def symMerge (lt : α → α → Bool) : Nat → Array α → Nat → Nat → Nat → Array α
  | 0, d, _, _, _ => d
  | f + 1, d, a, m, b =>
    if m - a = 1 then rotate d a (a + 1) (bs (fun h => lt d[h]! d[a]!) (b - m) m b)
    else if b - m = 1 then rotate d (bs (fun h => !lt d[m]! d[h]!) (m - a) a m) m (m + 1)
    else
      let mid := (a + b) / 2
      let n := mid + m
      let s0 := if mid < m then n - b else a
      let r0 := if mid < m then mid else m
      let st := bs (fun c => !lt d[n - 1 - c]! d[c]!) (r0 - s0) s0 r0
      let en := n - st
      let d1 := if st < m ∧ m < en then rotate d st m en else d
      let d2 := if a < st ∧ st < mid then symMerge lt f d1 a st mid else d1
      if mid < en ∧ en < b then symMerge lt f d2 mid en b else d2

variable {lt le : α → α → Bool}

/-- x is not above y, or they are one place. -/
theorem sorted_le (hO : SWO le) {a b : Nat} {d : Array α} (h : SortedIn le a b d) {i j : Nat} (hi : a ≤ i) (hij : i ≤ j) (hj : j < b) : le d[j]! d[i]! = false := by
  rcases Nat.lt_or_eq_of_le hij with h1 | rfl
  · exact h i j hi h1 hj
  · exact hO.irrefl _

theorem insert_left (hO : SWO le) (d : Array α) (a b : Nat) (ham : a + 1 < b) (hb : b ≤ d.size) (hR : SortedIn le (a + 1) b d)
    (hX : ∀ j, a + 1 ≤ j → j < b → lt d[j]! d[a]! = le d[j]! d[a]!) :
    SortedIn le a b (rotate d a (a + 1) (bs (fun h => lt d[h]! d[a]!) (b - (a + 1)) (a + 1) b)) ∧ PermIn a b d (rotate d a (a + 1) (bs (fun h => lt d[h]! d[a]!) (b - (a + 1)) (a + 1) b)) := by
  obtain ⟨h1, h2, h3, h4⟩ := bs_spec (fun h => lt d[h]! d[a]!) (b - (a + 1)) (a + 1) b (by omega) (by omega) (fun x y hx hxy hy hp => by
    rw [hX _ (by omega) hy] at hp
    rw [hX _ hx (by omega)]
    cases hc : le d[x]! d[a]! with
    | true => rfl
    | false => rw [hO.ntrans _ _ _ (hR x y hx hxy hy) hc] at hp; cases hp)
  generalize bs (fun h => lt d[h]! d[a]!) (b - (a + 1)) (a + 1) b = i at *
  refine ⟨?_, permIn_mono _ _ a i a b (Nat.le_refl _) h2 hb (rotate_permIn d a (a + 1) i (by omega) h1 (by omega))⟩
  have g1 : ∀ x, a + 1 ≤ x → x < i → le d[x]! d[a]! = true := fun x hx hxi => by rw [← hX x hx (by omega)]; exact h3 x hx hxi
  have g2 : ∀ x, i ≤ x → x < b → le d[x]! d[a]! = false := fun x hx hxb => by rw [← hX x (by omega) hxb]; exact h4 x hx hxb
  intro p q hp hpq hq
  rw [rotate_get d _ _ _ (by omega), rotate_get d _ _ _ (by omega)]
  by_cases c1 : q < i - 1
  · rw [show rtIx a (a + 1) i q = q + 1 by unfold rtIx; repeat' split
                                           all_goals omega, show rtIx a (a + 1) i p = p + 1 by unfold rtIx; repeat' split
                                                                                               all_goals omega]
    exact hR (p + 1) (q + 1) (by omega) (by omega) (by omega)
  · by_cases c2 : q = i - 1
    · rw [show rtIx a (a + 1) i q = a by unfold rtIx; repeat' split
                                         all_goals omega, show rtIx a (a + 1) i p = p + 1 by unfold rtIx; repeat' split
                                                                                             all_goals omega]
      exact hO.asymmA (g1 (p + 1) (by omega) (by omega))
    · rw [show rtIx a (a + 1) i q = q by unfold rtIx; repeat' split
                                         all_goals omega]
      by_cases c3 : p < i - 1
      · rw [show rtIx a (a + 1) i p = p + 1 by unfold rtIx; repeat' split
                                               all_goals omega]
        exact hR (p + 1) q (by omega) (by omega) hq
      · by_cases c4 : p = i - 1
        · rw [show rtIx a (a + 1) i p = a by unfold rtIx; repeat' split
                                             all_goals omega]
          exact g2 q (by omega) hq
        · rw [show rtIx a (a + 1) i p = p by unfold rtIx; repeat' split
                                             all_goals omega]
          exact hR p q (by omega) hpq hq

theorem insert_right (hO : SWO le) (d : Array α) (a m : Nat) (ham : a < m) (hb : m < d.size) (hL : SortedIn le a m d)
    (hX : ∀ i, a ≤ i → i < m → lt d[m]! d[i]! = le d[m]! d[i]!) :
    SortedIn le a (m + 1) (rotate d (bs (fun h => !lt d[m]! d[h]!) (m - a) a m) m (m + 1)) ∧ PermIn a (m + 1) d (rotate d (bs (fun h => !lt d[m]! d[h]!) (m - a) a m) m (m + 1)) := by
  obtain ⟨h1, h2, h3, h4⟩ := bs_spec (fun h => !lt d[m]! d[h]!) (m - a) a m (by omega) (by omega) (fun x y hx hxy hy hp => by
    rw [Bool.not_eq_true'] at hp ⊢
    rw [hX _ (by omega) hy] at hp
    rw [hX _ hx (by omega)]
    exact hO.ntrans _ _ _ hp (hL x y hx hxy hy))
  generalize bs (fun h => !lt d[m]! d[h]!) (m - a) a m = i at *
  refine ⟨?_, permIn_mono _ _ i (m + 1) a (m + 1) h1 (Nat.le_refl _) (by omega) (rotate_permIn d i m (m + 1) h2 (by omega) (by omega))⟩
  have g1 : ∀ x, a ≤ x → x < i → le d[m]! d[x]! = false := fun x hx hxi => by rw [← hX x hx (by omega)]; simpa using h3 x hx hxi
  have g2 : ∀ x, i ≤ x → x < m → le d[m]! d[x]! = true := fun x hx hxb => by rw [← hX x (by omega) hxb]; simpa using h4 x hx hxb
  have r1 : ∀ k, k < i → rtIx i m (m + 1) k = k := fun k hk => by unfold rtIx; rw [if_pos (by omega)]
  have r2 : rtIx i m (m + 1) i = m := by unfold rtIx; rw [if_neg (by omega), if_pos (by omega)]; omega
  have r3 : ∀ k, i < k → k < m + 1 → rtIx i m (m + 1) k = k - 1 := fun k hk hm => by unfold rtIx; rw [if_neg (by omega), if_neg (by omega)]; omega
  intro p q hp hpq hq
  rw [rotate_get d _ _ _ (by omega), rotate_get d _ _ _ (by omega)]
  by_cases c1 : q < i
  · rw [r1 q c1, r1 p (by omega)]
    exact hL p q hp hpq (by omega)
  · by_cases c2 : q = i
    · subst c2
      rw [r2, r1 p hpq]
      exact g1 p hp hpq
    · rw [r3 q (by omega) hq]
      by_cases c3 : p < i
      · rw [r1 p c3]
        exact sorted_le hO hL hp (by omega) (by omega)
      · by_cases c4 : p = i
        · subst c4
          rw [r2]
          exact hO.asymmA (g2 (q - 1) (by omega) (by omega))
        · rw [r3 p (by omega) (by omega)]
          exact hL (p - 1) (q - 1) (by omega) (by omega) (by omega)

/-- The heart of symMerge: behind the rotation nothing in the first half is above anything in the second. -/
theorem sym_split (hO : SWO le) (d : Array α) (a m b mid st en : Nat) (hmid : mid = (a + b) / 2) (ham : a + 2 ≤ m) (hmb : m + 2 ≤ b) (hb : b ≤ d.size) (hL : SortedIn le a m d) (hR : SortedIn le m b d)
    (hX : ∀ i j, a ≤ i → i < m → m ≤ j → j < b → lt d[j]! d[i]! = le d[j]! d[i]!)
    (hst : st = bs (fun c => !lt d[mid + m - 1 - c]! d[c]!) ((if mid < m then mid else m) - (if mid < m then mid + m - b else a)) (if mid < m then mid + m - b else a) (if mid < m then mid else m)) (hen : en = mid + m - st) :
    a ≤ st ∧ st ≤ m ∧ m ≤ en ∧ en ≤ b ∧ st ≤ mid ∧ mid ≤ en ∧ st + (en - m) = mid ∧
    (∀ i j, a ≤ i → i < mid → mid ≤ j → j < b → le (rotate d st m en)[j]! (rotate d st m en)[i]! = false) := by
  have hs0 : (if mid < m then mid + m - b else a) ≤ (if mid < m then mid else m) := by split <;> omega
  have ha0 : a ≤ (if mid < m then mid + m - b else a) := by split <;> omega
  have hr0 : (if mid < m then mid else m) ≤ m := by split <;> omega
  have inR : ∀ c, (if mid < m then mid + m - b else a) ≤ c → c < (if mid < m then mid else m) → m ≤ mid + m - 1 - c ∧ mid + m - 1 - c < b := fun c h1 h2 => by
    split at h1 <;> split at h2 <;> omega
  obtain ⟨h1, h2, h3, h4⟩ := bs_spec (fun c => !lt d[mid + m - 1 - c]! d[c]!) ((if mid < m then mid else m) - (if mid < m then mid + m - b else a)) (if mid < m then mid + m - b else a) (if mid < m then mid else m) hs0 (Nat.le_refl _) (fun x y hx hxy hy hp => by
    rw [Bool.not_eq_true'] at hp ⊢
    have i1 := inR x hx (by omega)
    have i2 := inR y (by omega) hy
    rw [hX _ _ (by omega) (by omega) i2.1 i2.2] at hp
    rw [hX _ _ (by omega) (by omega) i1.1 i1.2]
    have e1 := hL x y (by omega) hxy (by omega)
    have e2 := hR (mid + m - 1 - y) (mid + m - 1 - x) i2.1 (by omega) i1.2
    exact hO.ntrans _ _ _ (hO.ntrans _ _ _ e2 hp) e1)
  rw [← hst] at h1 h2 h3 h4
  clear hst
  have b1 : a ≤ st := by omega
  have b2 : st ≤ m := by omega
  have b3 : st ≤ mid := by split at h2 <;> omega
  have b4 : m ≤ en := by split at h2 <;> omega
  have b5 : en ≤ b := by split at h1 <;> omega
  have F1 : ∀ c, (if mid < m then mid + m - b else a) ≤ c → c < st → le d[mid + m - 1 - c]! d[c]! = false := fun c hc hs => by
    have i1 := inR c hc (by omega)
    rw [← hX _ _ (by omega) (by omega) i1.1 i1.2]; simpa using h3 c hc hs
  have F2 : ∀ c, st ≤ c → c < (if mid < m then mid else m) → le d[mid + m - 1 - c]! d[c]! = true := fun c hc hs => by
    have i1 := inR c (by omega) hs
    rw [← hX _ _ (by omega) (by omega) i1.1 i1.2]; simpa using h4 c hc hs
  refine ⟨b1, b2, b4, b5, b3, by omega, by omega, fun i j hi him hmj hjb => ?_⟩
  have q1 : ∀ k, k < st → rtIx st m en k = k := fun k hk => by unfold rtIx; rw [if_pos (by omega)]
  have q2 : ∀ k, st ≤ k → k < mid → rtIx st m en k = k + (m - st) := fun k h1 h2 => by unfold rtIx; rw [if_neg (by omega), if_pos (by omega)]
  have q3 : ∀ k, mid ≤ k → k < en → rtIx st m en k = k - (en - m) := fun k h1 h2 => by unfold rtIx; rw [if_neg (by omega), if_neg (by omega)]
  have q4 : ∀ k, en ≤ k → rtIx st m en k = k := fun k h1 => by unfold rtIx; rw [if_pos (by omega)]
  rw [rotate_get d _ _ _ (by omega), rotate_get d _ _ _ (by omega)]
  by_cases ci : i < st
  · rw [q1 i ci]
    by_cases cj : j < en
    · rw [q3 j hmj cj]
      exact hL i _ hi (by omega) (by omega)
    · rw [q4 j (by omega)]
      by_cases cs : (if mid < m then mid + m - b else a) < st
      · have f := F1 (st - 1) (by omega) (by omega)
        rw [show mid + m - 1 - (st - 1) = en by omega] at f
        have e1 := sorted_le hO hR (i := en) (j := j) (by omega) (by omega) hjb
        have e2 := sorted_le hO hL (i := i) (j := st - 1) hi (by omega) (by omega)
        exact hO.ntrans _ _ _ (hO.ntrans _ _ _ e1 f) e2
      · exfalso; split at cs <;> omega
  · rw [q2 i (by omega) him]
    by_cases cj : j < en
    · rw [q3 j hmj cj]
      by_cases cs : st < (if mid < m then mid else m)
      · have f := hO.asymmA (F2 st (Nat.le_refl _) cs)
        rw [show mid + m - 1 - st = en - 1 by omega] at f
        have e1 := sorted_le hO hL (i := st) (j := j - (en - m)) b1 (by omega) (by omega)
        have e2 := sorted_le hO hR (i := i + (m - st)) (j := en - 1) (by omega) (by omega) (by omega)
        exact hO.ntrans _ _ _ (hO.ntrans _ _ _ e1 f) e2
      · exfalso; split at cs <;> omega
    · rw [q4 j (by omega)]
      exact hR _ j (by omega) (by omega) hjb

/-- One half merged, or left because one side of it is empty. -/
theorem half_holds (_hO : SWO le) {f : Nat} (ih : ∀ (d : Array α) (a m b : Nat), b - a ≤ f → a < m → m < b → b ≤ d.size → SortedIn le a m d → SortedIn le m b d → (∀ i j, a ≤ i → i < m → m ≤ j → j < b → lt d[j]! d[i]! = le d[j]! d[i]!) →
      PermIn a b d (symMerge lt f d a m b) ∧ SortedIn le a b (symMerge lt f d a m b))
    (d : Array α) (a m b : Nat) (hf : b - a ≤ f) (h1 : a ≤ m) (h2 : m ≤ b) (h3 : b ≤ d.size) (hL : SortedIn le a m d) (hR : SortedIn le m b d) (hX : ∀ i j, a ≤ i → i < m → m ≤ j → j < b → lt d[j]! d[i]! = le d[j]! d[i]!) :
    PermIn a b d (if a < m ∧ m < b then symMerge lt f d a m b else d) ∧ SortedIn le a b (if a < m ∧ m < b then symMerge lt f d a m b else d) := by
  by_cases h : a < m ∧ m < b
  · rw [if_pos h]; exact ih d a m b hf h.1 h.2 h3 hL hR hX
  · rw [if_neg h]
    refine ⟨permIn_refl _ _ _, ?_⟩
    by_cases ha : a = m
    · rw [ha]; exact hR
    · have : m = b := by omega
      rw [← this]; exact hL

theorem symMerge_holds (hO : SWO le) : ∀ (f : Nat) (d : Array α) (a m b : Nat), b - a ≤ f → a < m → m < b → b ≤ d.size → SortedIn le a m d → SortedIn le m b d →
    (∀ i j, a ≤ i → i < m → m ≤ j → j < b → lt d[j]! d[i]! = le d[j]! d[i]!) → PermIn a b d (symMerge lt f d a m b) ∧ SortedIn le a b (symMerge lt f d a m b)
  | 0, d, a, m, b, hf, h1, h2, _, _, _, _ => by omega
  | f + 1, d, a, m, b, hf, ham, hmb, hb, hL, hR, hX => by
    unfold symMerge
    by_cases c1 : m - a = 1
    · rw [if_pos c1]
      obtain rfl : m = a + 1 := by omega
      exact (insert_left hO d a b hmb hb hR (fun j h1 h2 => hX a j (Nat.le_refl _) (by omega) h1 h2)).symm
    · rw [if_neg c1]
      by_cases c2 : b - m = 1
      · rw [if_pos c2]
        obtain rfl : b = m + 1 := by omega
        exact (insert_right hO d a m ham hb hL (fun i h1 h2 => hX i m h1 h2 (Nat.le_refl _) (by omega))).symm
      · rw [if_neg c2]
        simp only
        generalize hst : bs (fun c => !lt d[(a + b) / 2 + m - 1 - c]! d[c]!) ((if (a + b) / 2 < m then (a + b) / 2 else m) - (if (a + b) / 2 < m then (a + b) / 2 + m - b else a)) (if (a + b) / 2 < m then (a + b) / 2 + m - b else a) (if (a + b) / 2 < m then (a + b) / 2 else m) = st
        generalize hmid : (a + b) / 2 = mid at *
        generalize hen : mid + m - st = en
        obtain ⟨e1, e2, e3, e4, e5, e6, e7, hc⟩ := sym_split hO d a m b mid st en hmid.symm (by omega) (by omega) hb hL hR hX hst.symm hen.symm
        have hd1 : (if st < m ∧ m < en then rotate d st m en else d) = rotate d st m en := by
          by_cases h : st < m ∧ m < en
          · rw [if_pos h]
          · rw [if_neg h, rotate_none d st m en (by omega) e2 e3]
        rw [hd1]
        have q1 : ∀ k, k < st → (rotate d st m en)[k]! = d[k]! := fun k hk => by rw [rotate_get d _ _ _ (by omega)]; unfold rtIx; rw [if_pos (by omega)]
        have q2 : ∀ k, st ≤ k → k < mid → (rotate d st m en)[k]! = d[k + (m - st)]! := fun k h1 h2 => by rw [rotate_get d _ _ _ (by omega)]; unfold rtIx; rw [if_neg (by omega), if_pos (by omega)]
        have q3 : ∀ k, mid ≤ k → k < en → (rotate d st m en)[k]! = d[k - (en - m)]! := fun k h1 h2 => by rw [rotate_get d _ _ _ (by omega)]; unfold rtIx; rw [if_neg (by omega), if_neg (by omega)]
        have q4 : ∀ k, en ≤ k → k < b → (rotate d st m en)[k]! = d[k]! := fun k h1 h2 => by rw [rotate_get d _ _ _ (by omega)]; unfold rtIx; rw [if_pos (by omega)]
        have hs1 : (rotate d st m en).size = d.size := size_rotate _ _ _ _
        have p1 : PermIn a b d (rotate d st m en) := permIn_mono _ _ st en a b e1 e4 hb (rotate_permIn d st m en e2 e3 (by omega))
        generalize rotate d st m en = d1 at *
        clear hd1 hst
        obtain ⟨p2, s2⟩ := half_holds hO (symMerge_holds hO f) d1 a st mid (by omega) e1 e5 (by omega)
          (fun i j hi hij hj => by rw [q1 i (by omega), q1 j hj]; exact hL i j hi hij (by omega))
          (fun i j hi hij hj => by rw [q2 i hi (by omega), q2 j (by omega) hj]; exact hR _ _ (by omega) (by omega) (by omega))
          (fun i j hi him hj hjb => by rw [q1 i him, q2 j hj hjb]; exact hX _ _ hi (by omega) (by omega) (by omega))
        generalize (if a < st ∧ st < mid then symMerge lt f d1 a st mid else d1) = d2 at *
        have o2 : ∀ k, mid ≤ k → d2[k]! = d1[k]! := fun k hk => p2.2.1 k (.inr hk)
        obtain ⟨p3, s3⟩ := half_holds hO (symMerge_holds hO f) d2 mid en b (by omega) e6 e4 (by rw [p2.1]; omega)
          (fun i j hi hij hj => by rw [o2 i hi, o2 j (by omega), q3 i hi (by omega), q3 j (by omega) hj]; exact hL _ _ (by omega) (by omega) (by omega))
          (fun i j hi hij hj => by rw [o2 i (by omega), o2 j (by omega), q4 i hi (by omega), q4 j (by omega) hj]; exact hR _ _ (by omega) (by omega) (by omega))
          (fun i j hi him hj hjb => by rw [o2 i hi, o2 j (by omega), q3 i hi him, q4 j hj hjb]; exact hX _ _ (by omega) (by omega) (by omega) hjb)
        generalize (if mid < en ∧ en < b then symMerge lt f d2 mid en b else d2) = d3 at *
        have hsz2 : d2.size = d.size := by rw [p2.1, hs1]
        refine ⟨permIn_trans _ _ _ _ _ p1 (permIn_trans _ _ _ _ _ (permIn_mono _ _ a mid a b (Nat.le_refl _) (by omega) (by omega) p2) (permIn_mono _ _ mid b a b (by omega) (Nat.le_refl _) (by omega) p3)), ?_⟩
        have x1 : ∀ i, a ≤ i → i < mid → ∀ j, mid ≤ j → j < b → le d1[j]! d2[i]! = false :=
          permIn_all d1 d2 a mid (fun x => ∀ j, mid ≤ j → j < b → le d1[j]! x = false) (by omega) p2 (fun i hi him j hj hjb => hc i j hi him hj hjb)
        have x2 : ∀ j, mid ≤ j → j < b → ∀ i, a ≤ i → i < mid → le d3[j]! d2[i]! = false :=
          permIn_all d2 d3 mid b (fun y => ∀ i, a ≤ i → i < mid → le y d2[i]! = false) (by omega) p3 (fun j hj hjb i hi him => by rw [o2 j hj]; exact x1 i hi him j hj hjb)
        intro i j hi hij hj
        by_cases cj : j < mid
        · rw [p3.2.1 j (.inl cj), p3.2.1 i (.inl (by omega))]
          exact s2 i j hi hij cj
        · by_cases ci : i < mid
          · rw [p3.2.1 i (.inl ci)]
            exact x2 j (by omega) hj i hi ci
          · exact s3 i j (by omega) hij hj

end Go.Proofs.Qxb6612885a
