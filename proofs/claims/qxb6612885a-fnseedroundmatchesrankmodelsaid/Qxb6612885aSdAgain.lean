/-
  A quiet round behind a seed's round changes nothing. Plain.
-/
import Derived.Test.Qxb6612885aSd
namespace Go.Proofs.Qxb6612885a
open Go.RowKit Go.Sort

theorem flt_lt {p q : Nat → Bool} : ∀ {k : Nat}, (∀ j, j < k → p j = true → q j = true) → ∀ i, i < k → q i = true → p i = false → (flt p k).length < (flt q k).length
  | 0, _, i, hi, _, _ => absurd hi (Nat.not_lt_zero i)
  | k + 1, h, i, hi, hq, hp => by
    by_cases e : i = k
    · subst e
      have := flt_mono (p := p) (q := q) (k := i) (fun j hj => h j (by omega))
      rw [flt_miss hp, flt_hit hq]
      simp; omega
    · have ih := flt_lt (p := p) (q := q) (k := k) (fun j hj => h j (by omega)) i (by omega) hq hp
      cases hpk : p k
      · rw [flt_miss hpk]
        cases hqk : q k
        · rw [flt_miss hqk]; exact ih
        · rw [flt_hit hqk]; simp; omega
      · rw [flt_hit hpk, flt_hit (h k (by omega) hpk)]; simp; omega

theorem nodup_flt (p : Nat → Bool) (k : Nat) : (flt p k).Nodup := List.Pairwise.filter _ List.nodup_range

/-- who was unchoked: a list without repeats of interested ones, as many as there are slots or all -/
theorem rg_facts {ns : List N} {slots : Nat} (hsl : 1 ≤ slots) {rounds : Int} {per : Bool} {s : Nat × Nat} {srt ord : List Nat} (hp : srt.Perm (flt (isI ns) ns.length)) (ho : SdOrd slots rounds per s srt ord) :
    (ord.take slots).Nodup ∧ (∀ x, x ∈ ord.take slots → isI ns x = true ∧ x < ns.length) ∧ (ord.take slots).length = min slots (flt (isI ns) ns.length).length := by
  have hnd : srt.Nodup := hp.nodup_iff.2 (nodup_flt _ _)
  have hm : ∀ x, x ∈ srt → isI ns x = true ∧ x < ns.length := fun x hx => ⟨(flt_mem.1 (hp.mem_iff.1 hx)).2, (flt_mem.1 (hp.mem_iff.1 hx)).1⟩
  rw [← hp.length_eq]
  rcases ho with ⟨_, rfl⟩ | ⟨e, r, hr, rfl⟩
  · exact ⟨hnd.sublist (List.take_sublist _ _), fun x hx => hm x (List.mem_of_mem_take hx), by simp⟩
  · have hlen : slots ≤ srt.length := by
      unfold draws at e
      simp only [Bool.and_eq_true, decide_eq_true_eq] at e
      exact e.2
    have hrl : r < srt.length - (slots - 1) := DrawR.lt (by omega) hr
    obtain ⟨k, rfl⟩ : ∃ k, slots = k + 1 := ⟨slots - 1, by omega⟩
    simp only [Nat.add_sub_cancel] at hrl ⊢
    rw [swapped_take srt k r (by omega), getElem!_pos srt (k + r) (by omega)]
    refine ⟨?_, fun x hx => ?_, by simp; omega⟩
    · rw [List.nodup_append]
      refine ⟨hnd.sublist (List.take_sublist _ _), by simp, fun a ha b hb => ?_⟩
      simp at hb
      subst hb
      intro he
      obtain ⟨q, hq, hqe⟩ := List.mem_take_iff_getElem.1 ha
      rw [he] at hqe
      have := (List.getElem_inj hnd).1 hqe
      omega
    · rcases List.mem_append.1 hx with h | h
      · exact hm x (List.mem_of_mem_take h)
      · simp at h
        subst h
        exact hm _ (List.getElem_mem _)

theorem upd_reg (ns : List N) (rg : List Nat) (i : Nat) : (upd (reg rg) ns)[i]!.ra = ns[i]!.ra ∧ (upd (reg rg) ns)[i]!.it = ns[i]!.it ∧ (upd (reg rg) ns)[i]!.ld = ns[i]!.ld ∧ (upd (reg rg) ns)[i]!.ua = ns[i]!.ua := by
  by_cases h : i < ns.length
  · rw [upd_at _ _ _ h]; exact ⟨rfl, rfl, rfl, rfl⟩
  · rw [getElem!_neg (upd (reg rg) ns) i (by rw [upd_len]; exact h), getElem!_neg ns i h]; exact ⟨rfl, rfl, rfl, rfl⟩

theorem seed_again {ns ms ms2 : List N} (h1 : ∀ i : Nat, Flt.nan ns[i]!.ra = false) (h2 : ∀ i : Nat, Flt.nan ns[i]!.ua = false) {slots : Nat} (hsl : 1 ≤ slots) {rounds rounds2 : Int} {per : Bool} {s s2 : Nat × Nat} (hd : SdR ns slots rounds per s ms) (hd2 : SdR ms slots rounds2 false s2 ms2) :
    ms2.length = ns.length ∧ ∀ i, i < ns.length → ms2[i]! = ms[i]! := by
  obtain ⟨srt, ord, hp, hs, ho, rfl⟩ := hd
  obtain ⟨srt2, ord2, hp2, hs2, ho2, rfl⟩ := hd2
  obtain ⟨g1, g2, g3⟩ := rg_facts hsl hp ho
  generalize ord.take slots = rg at *
  have hI : isI (upd (reg rg) ns) = isI ns := by funext i; exact (upd_reg ns rg i).2.1
  rw [upd_len, hI] at hp2
  obtain rfl : ord2 = srt2 := by
    rcases ho2 with ⟨_, h⟩ | ⟨h, _⟩
    · exact h
    · unfold draws at h; simp at h
  have hun : ∀ i, i < ns.length → (upd (reg rg) ns)[i]!.un = rg.contains i := fun i hi => by rw [upd_at _ _ _ hi]; rfl
  have hsto : STO (sle (upd (reg rg) ns)) := sle_sto (fun i => by rw [(upd_reg ns rg i).1]; exact h1 i) (fun i => by rw [(upd_reg ns rg i).2.2.2]; exact h2 i)
  -- who is unchoked stands ahead of who is not
  have hah : ∀ i j, i < ns.length → j < ns.length → rg.contains i = true → rg.contains j = false → sle (upd (reg rg) ns) i j = true ∧ sle (upd (reg rg) ns) j i = false := fun i j hi hj hri hrj => by
    have e1 : slt (upd (reg rg) ns) i j = true := by
      unfold slt sbef
      rw [hun i hi, hun j hj, hri, hrj]; rfl
    have e2 : sle (upd (reg rg) ns) i j = true := by unfold sle; rw [e1]; rfl
    exact ⟨e2, hsto.asymm e2⟩
  have hU : (flt (fun j => isI ns j && rg.contains j) ns.length).length = rg.length := by
    refine List.Perm.length_eq ((List.perm_ext_iff_of_nodup (nodup_flt _ _) g1).2 fun x => ?_)
    rw [flt_mem]
    constructor
    · rintro ⟨_, h⟩
      simp only [Bool.and_eq_true] at h
      exact List.contains_iff_mem.1 h.2
    · intro h
      obtain ⟨a, b⟩ := g2 x h
      exact ⟨b, by rw [a, List.contains_iff_mem.2 h]; rfl⟩
  have hrr : ∀ i, i < ns.length → (ord2.take slots).contains i = rg.contains i := fun i hi => by
    rw [rank_top hsto hp2 hs2 slots i hi]
    unfold top
    cases hii : isI ns i
    · rw [Bool.false_and]
      symm
      rw [Bool.eq_false_iff, Ne, List.contains_iff_mem]
      intro h
      have := (g2 i h).1
      rw [hii] at this
      cases this
    · rw [Bool.true_and]
      cases hri : rg.contains i
      · refine decide_eq_false (Nat.not_lt.2 ?_)
        have hlt : (flt (fun j => isI ns j && rg.contains j) ns.length).length < (flt (isI ns) ns.length).length :=
          flt_lt (fun j _ h => by simp only [Bool.and_eq_true] at h; exact h.1) i hi hii (by rw [hri, Bool.and_false])
        have hle : (flt (fun j => isI ns j && rg.contains j) ns.length).length ≤ (flt (fun j => isI ns j && sle (upd (reg rg) ns) j i) ns.length).length := flt_mono fun j hj h => by
          simp only [Bool.and_eq_true] at h ⊢
          exact ⟨h.1, (hah j i hj hi h.2 hri).1⟩
        omega
      · refine decide_eq_true ?_
        have hlt : (flt (fun j => isI ns j && sle (upd (reg rg) ns) j i) ns.length).length < (flt (fun j => isI ns j && rg.contains j) ns.length).length :=
          flt_lt (fun j hj h => by
            simp only [Bool.and_eq_true] at h ⊢
            refine ⟨h.1, ?_⟩
            cases hrj : rg.contains j
            · rw [(hah i j hi hj hri hrj).2] at h; cases h.2
            · rfl) i hi (by rw [hii, hri]; rfl) (by rw [hsto.swo.irrefl, Bool.and_false])
        omega
  refine ⟨by rw [upd_len, upd_len], fun i hi => ?_⟩
  rw [upd_at _ _ _ (by rw [upd_len]; exact hi), upd_at _ _ _ hi]
  simp only [reg]
  rw [hrr i hi]

end Go.Proofs.Qxb6612885a
