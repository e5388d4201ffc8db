/-
  anchorTerm.
-/
import Derived.Test.Qxb6609488aMap
import Derived.Laws.MakeOwn
import Derived.Laws.IdiomCopy
import Derived.Deep.RegionHeld3
namespace Go.Proofs.Qxb6609488a
open Go.RowKit Go.Maps

theorem run_makeMap_hint (n : Nat) (w : World) : (Instr.makeMap 25 (some (.int .i64 (n : Nat)))).run Try.prog w = .ok (.map (some w.heap.size)) (w.alloc (.map #[] 0)) := by
  simp [Instr.makeMap, run_underlying Try.underlying25, asInt, newObj, Result.andThen]
  rfl

theorem put3 (w : World) (b o : Nat) (x y v : Value) : ((w.setCell ⟨b, o, none⟩ x).setCell ⟨b, o + 1, none⟩ y).setCell ⟨b, o + 2, none⟩ v = w.setCells b o [x, y, v] := rfl

theorem put3_at (w : World) (b o : Nat) (x y v : Value) (h : ∀ c, c < 3 → ∃ u, w.cell? ⟨b, o + c, none⟩ = some u) : (w.setCells b o [x, y, v]).cell? ⟨b, o, none⟩ = some x ∧ (w.setCells b o [x, y, v]).cell? ⟨b, o + 1, none⟩ = some y ∧ (w.setCells b o [x, y, v]).cell? ⟨b, o + 2, none⟩ = some v := by
  have hc := World.cell?_setCells_in b [x, y, v] o w (fun j hj => by obtain ⟨u, hu⟩ := h j hj; rw [hu]; rfl)
  exact ⟨hc 0 (by show 0 < 3; omega), hc 1 (by show 1 < 3; omega), hc 2 (by show 2 < 3; omega)⟩

theorem below_setCells {B : Nat} {a : World} {b : Nat} (hb : B ≤ b) : ∀ (vs : List Value) (o : Nat) {w : World}, Below B a w → Below B a (w.setCells b o vs)
  | [], _, _, h => h
  | v :: r, o, _, h => below_setCells hb r (o + 1) (h.setCell (p := ⟨b, o, none⟩) hb v)

theorem keep_cell {w : World} {p q : Addr} {u u0 : Value} (hT : w.cell? p = some u0) (hc : w.cell? q = some u) (hne : u ≠ u0) (x : Value) : (w.setCell p x).cell? q = some u := by
  rw [World.cell?_setCell_other _ _ _ _ (fun e => hne (by subst e; rw [hT] at hc; exact (Option.some.inj hc).symm))]
  exact hc

theorem SH.put {w : World} {v : Value} {ss : List ByteArray} (h : SH w v ss) {p : Addr} {o : Option Addr} (hT : w.cell? p = some (.pointer o)) (x : Value) : SH (w.setCell p x) v ss := by
  obtain ⟨hl, ⟨rfl, a, c, rfl⟩ | ⟨b, off, c, rfl, hc⟩⟩ := h
  · exact ⟨hl, .inl ⟨rfl, a, c, rfl⟩⟩
  · exact ⟨hl, .inr ⟨b, off, c, rfl, fun i hi => keep_cell hT (hc i hi) (by simp) x⟩⟩

theorem RA.put {w : World} {v : Value} {rs : List Rq} (h : RA w v rs) {p : Addr} {o : Option Addr} (hT : w.cell? p = some (.pointer o)) (x : Value) : RA (w.setCell p x) v rs := by
  obtain ⟨hl, a, c, e, hc⟩ := h
  refine ⟨hl, a, c, e, fun i hi => ?_⟩
  obtain ⟨b, off, vv, ea, h1, h2, h3, h4⟩ := hc i hi
  obtain ⟨a', c', e'⟩ := h4.shape
  exact ⟨b, off, vv, ea, keep_cell hT h1 (by simp) x, keep_cell hT h2 (by simp) x, keep_cell hT h3 (by rw [e']; simp) x, h4.put hT x⟩

theorem MapF.put {w : World} {M n : Nat} {f : ByteArray → Option ByteArray} (h : MapF w M n f) {p : Addr} {u : Value} (hT : w.cell? p = some u) (x : Value) : MapF (w.setCell p x) M n f := by
  refine h.kept (Below.heap_setCell w p x M fun e => ?_)
  obtain ⟨D, ⟨es, clock, e1, _⟩, _⟩ := h
  subst e
  unfold World.cell? at hT
  rw [e1] at hT
  cases hT

theorem info57 : (Try.prog.info? 57).map (fun i => (i.zero, i.size, i.bytes)) = some (some (.agg #[.string ByteArray.empty, .string ByteArray.empty, .slice none 0 0]), 3, 56) := by kernel_rfl

/-- the strings of the pairs are strings -/
def Fits (ls : List (ByteArray × ByteArray)) : Prop := ∀ i, i < ls.length → ls[i]!.1.size ≤ maxLen ∧ ls[i]!.2.size ≤ maxLen

/-- a map value that holds the pairs, the last of a key -/
def MapIs (w : World) (v : Value) (ls : List (ByteArray × ByteArray)) : Prop := (ls = [] ∧ v = .map none) ∨ (ls ≠ [] ∧ ∃ M n, v = .map (some M) ∧ M < w.heap.size ∧ MapF w M n (fun k => lastOf ls k ls.length))

/-- what anchorTerm makes -/
def TermAt (w : World) (T : Nat) (hasSel : Bool) (ls : List (ByteArray × ByteArray)) (rs : List Rq) (vm : Value) : Prop :=
  w.cell? ⟨T, 4, none⟩ = some vm ∧ ((hasSel = false ∧ w.cell? ⟨T, 0, none⟩ = some (.pointer none)) ∨
    (hasSel = true ∧ ∃ L vo vr, w.cell? ⟨T, 0, none⟩ = some (.pointer (some ⟨L, 0, none⟩)) ∧ w.cell? ⟨L, 0, none⟩ = some vo ∧ w.cell? ⟨L, 1, none⟩ = some vr ∧ MapIs w vo ls ∧ RA w vr rs))

set_option maxHeartbeats 4000000 in
set_option maxRecDepth 100000 in
theorem anchorTerm (hasSel : Bool) (vl ve vm : Value) (ls : List (ByteArray × ByteArray)) (rs : List Rq) (w : World) (hl : KA w vl ls) (hr : RA w ve rs) (hf : Fits ls) (h1 : ls.length ≤ 65536) (h2 : rs.length ≤ 4096) (hv : ∃ a n c, vm = .slice a n c) :
    Calls Try.prog 5 #[.bool hasSel, vl, ve, vm] w fun e w' => e = .returned (.pointer (some ⟨w.heap.size, 0, none⟩)) ∧ TermAt w' w.heap.size hasSel ls rs vm ∧ Below w.heap.size w w' := by
  obtain ⟨am, nm, cm, rfl⟩ := hv
  have hb1 : Below w.heap.size w (w.alloc (.cells #[.pointer none, .slice none 0 0, .pointer none, .string { data := #[] }, .slice am nm cm, .slice none 0 0] 53)) := (Below.refl _ _).alloc (Nat.le_refl _) _
  cases hasSel
  · go_enter Try.func5, Try.ntmps5
    go_wp2
    go_ret
    refine ⟨rfl, ⟨?_, .inl ⟨rfl, ?_⟩⟩, hb1⟩
    · go_simp
    · go_simp
  · obtain ⟨bl, al, cl, rfl, hcl⟩ := hl
    obtain ⟨br, ar, cr, rfl, hcr⟩ := hr
    have hT0 : (w.alloc (.cells #[.pointer none, .slice none 0 0, .pointer none, .string { data := #[] }, .slice am nm cm, .slice none 0 0] 53)).cell? ⟨w.heap.size, 0, none⟩ = some (.pointer none) := by go_simp
    have hT4 : (w.alloc (.cells #[.pointer none, .slice none 0 0, .pointer none, .string { data := #[] }, .slice am nm cm, .slice none 0 0] 53)).cell? ⟨w.heap.size, 4, none⟩ = some (.slice am nm cm) := by go_simp
    have hTf : (w.alloc (.cells #[.pointer none, .slice none 0 0, .pointer none, .string { data := #[] }, .slice am nm cm, .slice none 0 0] 53)).frozen? ⟨w.heap.size, 0, none⟩ = false := by go_simp
    have hsz1 : (w.alloc (.cells #[.pointer none, .slice none 0 0, .pointer none, .string { data := #[] }, .slice am nm cm, .slice none 0 0] 53)).heap.size > w.heap.size := by simp
    obtain ⟨n, hnn⟩ : ∃ n, ls.length = n := ⟨_, rfl⟩
    obtain ⟨m, hmn⟩ : ∃ m, rs.length = m := ⟨_, rfl⟩
    rw [hnn] at h1 hcl bl ⊢
    rw [hmn] at h2 hcr br ⊢
    go_enter Try.func5, Try.ntmps5
    go_upto_if 20 with fail
    generalize hw1 : w.alloc (.cells #[.pointer none, .slice none 0 0, .pointer none, .string { data := #[] }, .slice am nm cm, .slice none 0 0] 53) = w1 at *
    clear hw1
    have hmk := MapF.made w1
    have hbm : Below w1.heap.size w1 (w1.alloc (.map #[] 0)) := (Below.refl _ _).alloc (Nat.le_refl _) _
    have hszm : w1.heap.size < (w1.alloc (.map #[] 0)).heap.size := by simp
    generalize hS1 : w1.heap.size = S1 at *
    go_cut [10] (fun v10 wx => MapIs wx v10 ls ∧ (∃ o, v10 = .map o) ∧ Below S1 w1 wx)
    case first =>
      by_cases h0 : 0 < n
      · have hls : ls ≠ [] := fun e => by rw [e] at hnn; simp at hnn; omega
        have hmh := run_makeMap_hint n
        go_wp2
        generalize hw2 : w1.alloc (.map #[] 0) = w2 at *
        go_loopw [11] (fun v11 wr => ∃ k : Nat, k ≤ n ∧ v11 = .int .i64 k ∧ MapF wr S1 k (fun x => lastOf ls x k) ∧ S1 < wr.heap.size ∧ Below S1 w1 wr) (fun v11 _ => n - (intOf v11).toNat)
        case atStart => exact ⟨0, by omega, rfl, hmk, by omega, hbm⟩
        case round =>
          obtain ⟨k, hk, rfl, hMk, hlk, hbk⟩ := hrel
          by_cases hlt : k < n
          · obtain ⟨b, off, rfl, c1, c2⟩ := hcl k hlt
            have hbb : b < w.heap.size := World.block_lt_of_cell? w _ c1
            rw [← hb1.cell (p := ⟨b, _, none⟩) hbb, ← hbk.cell (p := ⟨b, _, none⟩) (by show b < _; omega)] at c1 c2
            obtain ⟨f1, f2⟩ := hf k (by omega)
            obtain ⟨w3, hrun, hM3, hg3⟩ := (hMk.kept (w' := wr.drew) rfl).update (by unfold maxLen; omega) f1 f2
            have HM : Hid (MapF w3 S1 (k + 1) (fun x => lastOf ls x (k + 1)) ∧ S1 < w3.heap.size ∧ Below S1 w1 w3) :=
              ⟨hM3, Nat.lt_of_lt_of_le hlk hg3.size, hbk.drew.grown hg3 (Nat.le_of_lt hlk) (fun j hj => by cases hj; exact Nat.le_refl _)⟩
            clear hM3 hg3 hMk hbk hf hcl hcr
            generalize ls[k]!.1 = x at *
            generalize ls[k]!.2 = y at *
            go_wp2_with fail
            go_region
            all_goals
              go_wp2
              go_roundw
            case rel => exact ⟨k + 1, by omega, by go_num, HM.out.1, HM.out.2.1, HM.out.2.2⟩
            case measure => simp [intOf]; omega
          · have : k = n := by omega
            subst this
            go_wp2
            go_meet
            exact ⟨.inr ⟨hls, _, _, rfl, hlk, by rw [hnn]; exact hMk⟩, ⟨_, rfl⟩, hbk⟩
      · have hls : ls = [] := List.eq_nil_of_length_eq_zero (by omega)
        go_wp2
        go_meet
        exact ⟨.inl ⟨hls, rfl⟩, ⟨_, rfl⟩, Below.refl _ _⟩
    case rest =>
      obtain ⟨hMI, ⟨om, rfl⟩, hbx⟩ := hcut
      clear hmk hbm hszm hf hcl
      rename World => wA
      have hszA := hbx.size
      obtain ⟨i0, hi, hz0, hz1, hz2⟩ := info_parts info57
      go_upto_if 43 with fail
      go_cut [12] (fun v12 wx => RA wx v12 rs ∧ (∃ a n c, v12 = .slice a n c) ∧ Below wA.heap.size wA wx)
      case first =>
        by_cases h0 : 0 < m
        · have hbA : Below w.heap.size w wA := hb1.trans (hbx.mono (by omega))
          go_wp2_with (at_make; refine wpList_make_full _ rfl _ _ 54 rfl wA.heap.size 57 i0 _ 3 Try.underlying54 hi hz0 hz1 _ _ _ _ m rfl rfl rfl rfl (by rw [hz2]; omega) (by unfold maxLen; omega) (Nat.le_refl _) ?_; intro w3 hown hgr)
          have hk3 : ∀ o, o < m * 3 → (∃ v, w3.cell? ⟨wA.heap.size, o, none⟩ = some v) ∧ w3.frozen? ⟨wA.heap.size, o, none⟩ = false := fun o ho => ⟨by
            rw [hown.cellAt o ho]
            exact ⟨_, List.getElem?_eq_getElem (by rw [hown.1]; exact ho)⟩, hown.frozenAt o⟩
          have hb3 : Below wA.heap.size wA w3 := (Below.refl _ _).grown hgr (Nat.le_refl _) (fun k hk => by cases hk)
          clear hown hgr
          generalize hR : wA.heap.size = Rb at *
          go_loopw [13] (fun v13 wr => ∃ k : Nat, k ≤ m ∧ v13 = .int .i64 k ∧ (∀ o, o < m * 3 → (∃ v, wr.cell? ⟨Rb, o, none⟩ = some v) ∧ wr.frozen? ⟨Rb, o, none⟩ = false) ∧ (∀ i, i < k → ∃ vv, wr.cell? ⟨Rb, i * 3, none⟩ = some (.string rs[i]!.key) ∧ wr.cell? ⟨Rb, i * 3 + 1, none⟩ = some (.string rs[i]!.op) ∧ wr.cell? ⟨Rb, i * 3 + 2, none⟩ = some vv ∧ SH w vv rs[i]!.vals) ∧ Below Rb wA wr) (fun v13 _ => m - (intOf v13).toNat)
          case atStart => exact ⟨0, by omega, rfl, hk3, fun i hi => absurd hi (Nat.not_lt_zero i), hb3⟩
          case round =>
            obtain ⟨k, hk, rfl, hex, hat, hbk⟩ := hrel
            by_cases hlt : k < m
            · obtain ⟨b, off, vv, rfl, c1, c2, c3, hvv⟩ := hcr k hlt
              have hbb : b < w.heap.size := World.block_lt_of_cell? w _ c1
              have hcc : ∀ o, wr.cell? ⟨b, o, none⟩ = w.cell? ⟨b, o, none⟩ := fun o => by
                rw [hbk.cell (p := ⟨b, o, none⟩) (by show b < Rb; omega), hbA.cell (p := ⟨b, o, none⟩) hbb]
              rw [← hcc] at c1 c2 c3
              obtain ⟨av, cv, rfl⟩ := hvv.shape
              obtain ⟨⟨e0, x0⟩, g0⟩ := hex (k * 3) (by omega)
              obtain ⟨⟨e1, x1⟩, g1⟩ := hex (k * 3 + 1) (by omega)
              obtain ⟨⟨e2, x2⟩, g2⟩ := hex (k * 3 + 2) (by omega)
              have hput := put3_at wr Rb (k * 3) (.string rs[k]!.key) (.string rs[k]!.op) (.slice av rs[k]!.vals.length cv) (fun c hc => (hex _ (by omega)).1)
              have HE : Hid ((∀ o, o < m * 3 → (∃ v, (wr.setCells Rb (k * 3) [.string rs[k]!.key, .string rs[k]!.op, .slice av rs[k]!.vals.length cv]).drew.cell? ⟨Rb, o, none⟩ = some v) ∧ (wr.setCells Rb (k * 3) [.string rs[k]!.key, .string rs[k]!.op, .slice av rs[k]!.vals.length cv]).drew.frozen? ⟨Rb, o, none⟩ = false) ∧ (∀ i, i < k + 1 → ∃ vv, (wr.setCells Rb (k * 3) [.string rs[k]!.key, .string rs[k]!.op, .slice av rs[k]!.vals.length cv]).drew.cell? ⟨Rb, i * 3, none⟩ = some (.string rs[i]!.key) ∧ (wr.setCells Rb (k * 3) [.string rs[k]!.key, .string rs[k]!.op, .slice av rs[k]!.vals.length cv]).drew.cell? ⟨Rb, i * 3 + 1, none⟩ = some (.string rs[i]!.op) ∧ (wr.setCells Rb (k * 3) [.string rs[k]!.key, .string rs[k]!.op, .slice av rs[k]!.vals.length cv]).drew.cell? ⟨Rb, i * 3 + 2, none⟩ = some vv ∧ SH w vv rs[i]!.vals) ∧ Below Rb wA (wr.setCells Rb (k * 3) [.string rs[k]!.key, .string rs[k]!.op, .slice av rs[k]!.vals.length cv]).drew) := by
                refine ⟨fun o ho => ⟨?_, ?_⟩, fun i hi => ?_, (below_setCells (Nat.le_refl _) _ _ hbk).drew⟩
                · show ∃ v, (wr.setCells Rb (k * 3) _).cell? ⟨Rb, o, none⟩ = some v
                  by_cases hin : k * 3 ≤ o ∧ o < k * 3 + 3
                  · have : o = k * 3 ∨ o = k * 3 + 1 ∨ o = k * 3 + 2 := by omega
                    rcases this with rfl | rfl | rfl
                    · exact ⟨_, hput.1⟩
                    · exact ⟨_, hput.2.1⟩
                    · exact ⟨_, hput.2.2⟩
                  · rw [World.cell?_setCells_out _ _ _ _ _ (fun _ _ => by show o < k * 3 ∨ k * 3 + 3 ≤ o; omega)]
                    exact (hex o ho).1
                · show (wr.setCells Rb (k * 3) _).frozen? ⟨Rb, o, none⟩ = false
                  rw [World.frozen?_setCells]; exact (hex o ho).2
                · by_cases e : i = k
                  · subst e
                    exact ⟨_, hput.1, hput.2.1, hput.2.2, hvv⟩
                  · obtain ⟨vv, q1, q2, q3, q4⟩ := hat i (by omega)
                    refine ⟨vv, ?_, ?_, ?_, q4⟩
                    · exact (World.cell?_setCells_out _ _ _ _ _ (fun _ _ => by show i * 3 < k * 3 ∨ k * 3 + 3 ≤ i * 3; omega)).trans q1
                    · exact (World.cell?_setCells_out _ _ _ _ _ (fun _ _ => by show i * 3 + 1 < k * 3 ∨ k * 3 + 3 ≤ i * 3 + 1; omega)).trans q2
                    · exact (World.cell?_setCells_out _ _ _ _ _ (fun _ _ => by show i * 3 + 2 < k * 3 ∨ k * 3 + 3 ≤ i * 3 + 2; omega)).trans q3
              rw [← put3] at HE
              clear hput hex hat hbk hcr hcc hvv
              generalize rs[k]!.key = x at *
              generalize rs[k]!.op = y at *
              generalize rs[k]!.vals.length = nv at *
              go_wp2_with fail
              go_region
              all_goals
                go_wp2
                go_roundw
              case rel => exact ⟨k + 1, by omega, by go_num, HE.out.1, HE.out.2.1, HE.out.2.2⟩
              case measure => simp [intOf]; omega
            · have : k = m := by omega
              subst this
              go_wp2
              go_meet
              refine ⟨⟨by omega, some ⟨Rb, 0, none⟩, k, by rw [hmn], fun i hi => ?_⟩, ⟨_, _, _, rfl⟩, hbk⟩
              obtain ⟨vv, q1, q2, q3, q4⟩ := hat i (by omega)
              have hbw : Below w.heap.size w wr := hbA.trans (hbk.mono (by omega))
              exact ⟨Rb, 0, vv, rfl, by rw [Nat.zero_add]; exact q1, by rw [Nat.zero_add]; exact q2, by rw [Nat.zero_add]; exact q3, q4.below hbw⟩
        · have hrs : rs = [] := List.eq_nil_of_length_eq_zero (by omega)
          go_wp2
          go_meet
          refine ⟨⟨by rw [hrs]; simp, none, 0, by rw [hrs]; rfl, fun i hi => by rw [hrs] at hi; simp at hi⟩, ⟨_, _, _, rfl⟩, Below.refl _ _⟩
      case rest =>
        obtain ⟨hRA, ⟨a12, n12, c12, rfl⟩, hby⟩ := hcut
        rename World => wB
        have hszB := hby.size
        have hT0B : wB.cell? ⟨w.heap.size, 0, none⟩ = some (.pointer none) := by rw [hby.cell (p := ⟨w.heap.size, 0, none⟩) (by show w.heap.size < _; omega), hbx.cell (p := ⟨w.heap.size, 0, none⟩) (by show w.heap.size < _; omega)]; exact hT0
        have hT4B : wB.cell? ⟨w.heap.size, 4, none⟩ = some (.slice am nm cm) := by rw [hby.cell (p := ⟨w.heap.size, 4, none⟩) (by show w.heap.size < _; omega), hbx.cell (p := ⟨w.heap.size, 4, none⟩) (by show w.heap.size < _; omega)]; exact hT4
        have hTfB : wB.frozen? ⟨w.heap.size, 0, none⟩ = false := by rw [hby.frozen (p := ⟨w.heap.size, 0, none⟩) (by show w.heap.size < _; omega), hbx.frozen (p := ⟨w.heap.size, 0, none⟩) (by show w.heap.size < _; omega)]; exact hTf
        clear hT0 hT4 hTf hcr
        have hTlt : w.heap.size < wB.heap.size := by omega
        have HF : Hid (TermAt ((wB.alloc (.cells #[.map om, .slice a12 n12 c12] 59)).setCell ⟨w.heap.size, 0, none⟩ (.pointer (some ⟨wB.heap.size, 0, none⟩))) w.heap.size true ls rs (.slice am nm cm) ∧ Below w.heap.size w ((wB.alloc (.cells #[.map om, .slice a12 n12 c12] 59)).setCell ⟨w.heap.size, 0, none⟩ (.pointer (some ⟨wB.heap.size, 0, none⟩)))) := by
          have hbC : Below wB.heap.size wB (wB.alloc (.cells #[.map om, .slice a12 n12 c12] 59)) := (Below.refl _ _).alloc (Nat.le_refl _) _
          have hT0C : (wB.alloc (.cells #[.map om, .slice a12 n12 c12] 59)).cell? ⟨w.heap.size, 0, none⟩ = some (.pointer none) := by rw [hbC.cell (p := ⟨w.heap.size, 0, none⟩) hTlt]; exact hT0B
          have hT4C : (wB.alloc (.cells #[.map om, .slice a12 n12 c12] 59)).cell? ⟨w.heap.size, 4, none⟩ = some (.slice am nm cm) := by rw [hbC.cell (p := ⟨w.heap.size, 4, none⟩) hTlt]; exact hT4B
          have hL0 : (wB.alloc (.cells #[.map om, .slice a12 n12 c12] 59)).cell? ⟨wB.heap.size, 0, none⟩ = some (.map om) := by rw [World.cell?_alloc_at _ _ _ _ rfl]; rfl
          have hL1 : (wB.alloc (.cells #[.map om, .slice a12 n12 c12] 59)).cell? ⟨wB.heap.size, 1, none⟩ = some (.slice a12 n12 c12) := by rw [World.cell?_alloc_at _ _ _ _ rfl]; rfl
          refine ⟨⟨keep_cell hT0C hT4C (by simp) _, .inr ⟨rfl, wB.heap.size, .map om, .slice a12 n12 c12, World.cell?_setCell_same _ _ _ hT0C, keep_cell hT0C hL0 (by simp) _, keep_cell hT0C hL1 (by simp) _, ?_, (hRA.below hbC).put hT0C _⟩⟩, ?_⟩
          · rcases hMI with ⟨e1, e2⟩ | ⟨e1, M, n', e2, e3, e4⟩
            · exact .inl ⟨e1, e2⟩
            · refine .inr ⟨e1, M, n', e2, ?_, ((e4.below hby e3).below hbC (by omega)).put hT0C _⟩
              have : (wB.alloc (.cells #[.map om, .slice a12 n12 c12] 59)).heap.size ≤ ((wB.alloc (.cells #[.map om, .slice a12 n12 c12] 59)).setCell ⟨w.heap.size, 0, none⟩ (.pointer (some ⟨wB.heap.size, 0, none⟩))).heap.size := ((Below.refl 0 _).setCell (p := ⟨w.heap.size, 0, none⟩) (Nat.zero_le _) _).size
              have := hbC.size
              omega
          · exact ((hb1.trans (hbx.mono (by omega))).trans ((hby.mono (by omega)).trans (hbC.mono (by omega)))).setCell (p := ⟨w.heap.size, 0, none⟩) (Nat.le_refl _) _
        rw [World.setCell_alloc_past _ _ _ _ hTlt] at HF
        clear hMI hRA hby hbx hb1
        go_wp2
        go_ret
        exact ⟨rfl, HF.out.1, HF.out.2⟩

end Go.Proofs.Qxb6609488a
