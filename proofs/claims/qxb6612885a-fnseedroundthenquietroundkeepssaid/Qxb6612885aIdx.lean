/-
  sort.SliceStable over a row of indices that the call owns; the rank of an index.
-/
import Derived.Test.Qxb6612885aStableW
import Derived.Test.Qxb6612885aKeep
namespace Go.Proofs.Qxb6612885a
open Go.Shelf Go.RowKit Go.Lib Go.Sort

/-- An index as a value. -/
def enI (k : Nat) : Value := .int .i64 (k : Int)
/-- The elements: indices of a list that is not empty. -/
def encF {m : Nat} (x : Fin (m + 1)) : Value := enI x.val

theorem own_keep {X : List Nat} {w w' : World} (hk : Keep X w w') {base : Nat} {e : TypeId} {size : Nat} {v : Value} {n : Nat} {xs : List Value} (h : w.ownsRow base e size v n xs) (hx : ∀ b, b ∈ X → v.ownBlock ≠ some b) : w'.ownsRow base e size v n xs := by
  refine ⟨h.1, ?_⟩
  rcases h.2 with hn | ⟨g, cap, cur, rfl, hb, hgg, rest⟩
  · exact .inl hn
  · refine .inr ⟨g, cap, cur, rfl, hb, ?_, rest⟩
    rw [hk.block g (Array.getElem?_eq_some_iff.1 hgg).1 (fun hX => hx g hX rfl)]
    exact hgg

theorem grow_keep (w : World) (os : Array Obj) (X : List Nat) : Keep X w (grow w os) :=
  ⟨rfl, rfl, rfl, by simp [grow], fun k hk _ => by show (w.heap ++ os)[k]? = _; rw [Array.getElem?_append_left hk]⟩

/-- Behind the sort the row is owned still. -/
theorem own_leaves {m : Nat} {w w' : World} {base g cap n : Nat} {xs : List Value} {d : Array (Fin (m + 1))} (h : w.ownsRow base 3 1 (.slice (some ⟨g, 0, none⟩) n cap) n xs) (hd : d.size = n) (hl : Leaves encF w g 0 d w') :
    w'.ownsRow base 3 1 (.slice (some ⟨g, 0, none⟩) n cap) n (d.toList.map encF) := by
  refine ⟨by simp [hd], ?_⟩
  rcases h.2 with ⟨h0, _⟩ | ⟨g', cap', cur, h0, hb, hg, h1, h2, h3, h4⟩
  · cases h0
  · simp at h0
    obtain ⟨rfl, rfl⟩ := h0
    obtain ⟨k, os, rfl⟩ := hl
    refine .inr ⟨g, cap, putCells encF 0 d cur, rfl, hb, ?_, h1, h2, by simp [putCells, h3], ?_⟩
    · show ((w.heap.modify g _) ++ os)[g]? = _
      have hlt := (Array.getElem?_eq_some_iff.1 hg).1
      rw [Array.getElem?_append_left (by simpa using hlt), Array.getElem?_modify, if_pos rfl, hg]
      rfl
    · refine List.ext_getElem? fun j => ?_
      rw [List.getElem?_take]
      by_cases hj : j < n
      · rw [if_pos (by omega)]
        have hc : j < cur.size := by omega
        simp only [putCells, Array.getElem?_toList, Array.getElem?_mapIdx, List.getElem?_map]
        rw [Array.getElem?_eq_getElem hc, Array.getElem?_eq_getElem (show j < d.size by omega)]
        simp only [Option.map_some]
        rw [if_pos (by omega), getElem!_pos d _ (by omega)]
        simp
      · rw [if_neg (by omega), List.getElem?_map, Array.getElem?_toList, Array.getElem?_eq_none (by omega)]
        rfl

theorem holds_own {m : Nat} {w : World} {base g cap n : Nat} {d : Array (Fin (m + 1))} (hd : d.size = n) (h : w.ownsRow base 3 1 (.slice (some ⟨g, 0, none⟩) n cap) n (d.toList.map encF)) : Holds encF w g 0 d := fun j hj => by
  refine ⟨?_, ?_⟩
  · rw [Nat.zero_add, h.cellAt j (by omega), List.getElem?_map, Array.getElem?_toList, Array.getElem?_eq_getElem hj, getElem!_pos d j hj]
    rfl
  · rw [Nat.zero_add]; exact h.frozenAt j

/-- the list as indices below m + 1 -/
def toFins (m : Nat) (l : List Nat) : Array (Fin (m + 1)) := (l.map (fun k => (⟨k % (m + 1), Nat.mod_lt _ (by omega)⟩ : Fin (m + 1)))).toArray

theorem toFins_map (m : Nat) (l : List Nat) (h : ∀ x, x ∈ l → x < m + 1) : (toFins m l).toList.map (fun x => x.val) = l := by
  unfold toFins
  simp only [List.map_map]
  refine (List.map_congr_left ?_).trans (List.map_id l)
  intro x hx
  show x % (m + 1) = x
  exact Nat.mod_eq_of_lt (h x hx)

/-- 'less' reads and answers by 'lt', whatever order the row holds. -/
def LessI (m : Nat) (lt : Nat → Nat → Bool) (g : Nat) (lb : Array Value) (blk size : Nat) (w : World) : Prop :=
  ∀ (d : Array (Fin (m + 1))) (w' : World), d.size = size → Leaves encF w blk 0 d w' → ∀ (i j : Nat), i < size → j < size →
    Calls Try.prog g (#[.int .i64 (i : Int), .int .i64 (j : Int)] ++ lb) w' fun e w'' => e = .returned (.bool (lt d[i]!.val d[j]!.val)) ∧ Leaves encF w' blk 0 d w''

set_option maxHeartbeats 1000000 in
theorem sort_rows (m : Nat) (lt le : Nat → Nat → Bool) (hO : SWO le) (hB : ∀ x y, x < y → y < m + 1 → lt y x = le y x) (g : Nat) (lb : Array Value) (eg : ∀ args w, (callFunc g args).run Try.prog w = .ok (.enter g args) w)
    (base : Nat) (v : Value) (l : List Nat) (hl : ∀ x, x ∈ l → x < m + 1) (hinc : ∀ i j, i < j → j < l.length → l[i]! < l[j]!) (hsz : l.length < 4611686018427387904) (w : World) (hown : w.ownsRow base 3 1 v l.length (l.map enI))
    (hless : ∀ blk c, v = .slice (some ⟨blk, 0, none⟩) l.length c → 2 ≤ l.length → ∀ d0 : Array (Fin (m + 1)), d0.size = l.length → Holds encF w blk 0 d0 → LessI m lt g lb blk l.length w) :
    Calls Try.prog 30 #[.iface 47 v, .func (.func g) #[] lb] w fun e w' => e = .returned (.tuple #[]) ∧ ∃ s : List Nat, s.Perm l ∧ (∀ i j, i < j → j < s.length → le s[j]! s[i]! = false) ∧ w'.ownsRow base 3 1 v l.length (s.map enI) ∧ Keep v.ownBlock.toList w w' := by
  by_cases h1 : l.length ≤ 1
  · obtain ⟨p, c, hv⟩ : ∃ p c, v = .slice p l.length c := by
      rcases hown.2 with ⟨h, hn⟩ | ⟨g', cap, _, h, _⟩
      · exact ⟨none, 0, by rw [h, hn]⟩
      · exact ⟨_, cap, h⟩
    rw [hv]
    refine (sliceStable_tiny p l.length c h1 (.func g) #[] lb w).mono ?_
    rintro e w' ⟨rfl, os, rfl⟩
    rw [hv] at hown
    exact ⟨rfl, l, List.Perm.refl l, fun i j hij hj => by omega, own_keep (grow_keep w os []) hown (fun b hb => by cases hb), grow_keep w os _⟩
  · rcases hown.2 with ⟨_, hn⟩ | ⟨blk, cap, cur, hv, _, hg, _⟩
    · omega
    · have hds : (toFins m l).size = l.length := by simp [toFins]
      have hmap := toFins_map m l hl
      have hvals : ∀ i, i < l.length → ((toFins m l)[i]!).val = l[i]! := fun i hi => by
        have : ((toFins m l).toList.map (fun x => x.val))[i]? = l[i]? := by rw [hmap]
        rw [List.getElem?_map, Array.getElem?_toList, Array.getElem?_eq_getElem (by omega), List.getElem?_eq_getElem hi] at this
        simp at this
        rw [getElem!_pos (toFins m l) i (by omega), getElem!_pos l i hi]
        exact this
      have henc : (toFins m l).toList.map encF = l.map enI := by
        rw [← hmap, List.map_map]
        congr 1
        rw [hmap]
      subst hv
      have hH : Holds encF w blk 0 (toFins m l) := holds_own hds (by rw [henc]; exact hown)
      have hblk := (hown.lt blk rfl).2
      have hlI := hless blk cap rfl (by omega) _ hds hH
      have hm := sliceStable_many encF (fun _ => rfl) (fun x y : Fin (m + 1) => lt x.val y.val) (fun x y => le x.val y.val) (fun x y => x.val < y.val) ⟨fun x => hO.irrefl _, fun x y z => hO.trans _ _ _, fun x y z => hO.ntrans _ _ _⟩
        (fun x y h => hB x.val y.val h y.isLt) g lb eg blk 0 cap (toFins m l) (by omega) (by omega) w
        (fun d w' hs hL I J i j hI hJ hi hj => by subst hI hJ; exact hlI d w' (by omega) hL i j (by omega) (by omega)) hH hblk
        (fun i j hij hj => by show ((toFins m l)[i]!).val < ((toFins m l)[j]!).val; rw [hvals i (by omega), hvals j (by omega)]; exact hinc i j hij (by omega))
      rw [hds] at hm
      refine hm.mono ?_
      rintro e w' ⟨rfl, d', hp, hs, hL⟩
      have hd' : d'.size = l.length := by rw [hp.1, hds]
      refine ⟨rfl, d'.toList.map (fun x => x.val), ?_, ?_, ?_, hL.keep⟩
      · have h3 := hp.2.2
        rw [Array.extract_eq_self_of_le (by omega), Array.extract_eq_self_of_le (by omega)] at h3
        have h4 := h3.map (fun x => x.val)
        rw [hmap] at h4
        exact h4
      · intro i j hij hj
        simp at hj
        have e1 : ∀ i, i < d'.size → (d'.toList.map (fun x => x.val))[i]! = (d'[i]!).val := fun i hi => by
          rw [getElem!_pos _ i (by simpa using hi), getElem!_pos d' i hi]
          simp
        rw [e1 i (by omega), e1 j hj]
        exact hs i j (by omega) hij (by omega)
      · have h5 := own_leaves hown hd' hL
        have e2 : (d'.toList.map (fun x => x.val)).map enI = d'.toList.map encF := by rw [List.map_map]; rfl
        rw [e2]
        exact h5

/-! ### the rank -/
theorem countP_idx (f : Nat → Bool) : ∀ (s : List Nat) (p : Nat), p ≤ s.length → (∀ i, i < s.length → f s[i]! = decide (i < p)) → s.countP f = p
  | [], p, hp, _ => by simp at hp; subst hp; rfl
  | a :: t, 0, _, h => by
    have h0 := h 0 (by simp)
    simp at h0
    have ht := countP_idx f t 0 (by omega) (fun i hi => by have := h (i + 1) (by simpa using hi); simpa using this)
    rw [List.countP_cons, ht]; simp [h0]
  | a :: t, p + 1, hp, h => by
    have h0 := h 0 (by simp)
    simp at h0
    have ht := countP_idx f t p (by simpa using hp) (fun i hi => by have := h (i + 1) (by simpa using hi); simpa using this)
    rw [List.countP_cons, ht]; simp [h0]

/-- a strict order in which two indices are one or stand in it -/
structure STO (le : Nat → Nat → Bool) : Prop where
  swo : SWO le
  total : ∀ x y, x ≠ y → le x y = true ∨ le y x = true

theorem STO.asymm {le : Nat → Nat → Bool} (h : STO le) {x y : Nat} (hxy : le x y = true) : le y x = false := by
  cases hyx : le y x
  · rfl
  · have := h.swo.trans x y x hxy hyx
    rw [h.swo.irrefl] at this
    cases this

theorem nodup_inc {l : List Nat} (hinc : ∀ i j, i < j → j < l.length → l[i]! < l[j]!) : l.Nodup := by
  rw [List.nodup_iff_pairwise_ne, List.pairwise_iff_getElem]
  intro i j hi hj hij
  have := hinc i j hij hj
  rw [getElem!_pos l i hi, getElem!_pos l j hj] at this
  omega

theorem rank {le : Nat → Nat → Bool} (h : STO le) {s l : List Nat} (hp : s.Perm l) (hn : l.Nodup) (hs : ∀ i j, i < j → j < s.length → le s[j]! s[i]! = false) (p : Nat) (hpl : p < s.length) : l.countP (fun y => le y s[p]!) = p := by
  rw [← hp.countP_eq]
  refine countP_idx _ s p (by omega) fun i hi => ?_
  have hnd : s.Nodup := hp.nodup_iff.mpr hn
  rcases Nat.lt_trichotomy i p with hip | hip | hip
  · have h1 := hs i p hip hpl
    have hne : s[i]! ≠ s[p]! := by
      rw [getElem!_pos s i hi, getElem!_pos s p hpl]
      exact List.pairwise_iff_getElem.mp (List.nodup_iff_pairwise_ne.mp hnd) i p hi hpl hip
    rcases h.total _ _ hne with h2 | h2
    · rw [h2, decide_eq_true hip]
    · rw [h1] at h2; cases h2
  · subst hip; rw [h.swo.irrefl, decide_eq_false (Nat.lt_irrefl _)]
  · rw [hs p i hip hi, decide_eq_false (by omega)]

end Go.Proofs.Qxb6612885a
