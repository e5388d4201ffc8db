/-
  anchor, where matchLabels gives none.
-/
import Derived.Test.Qxb6609488aTerm
namespace Go.Proofs.Qxb6609488a
open Go.RowKit Go.Maps

def opIn : ByteArray := { data := #[73, 110] }

theorem opIn_list : opIn.toList = [73, 110] := by kernel_rfl

/-- a map[string]string that came in -/
def MapArg (w : World) (v : Value) (g : ByteArray → Option ByteArray) : Prop := (v = .map none ∧ g = fun _ => none) ∨ ∃ b n, v = .map (some b) ∧ MapF w b n g

theorem MapF.lt {w : World} {M n : Nat} {f : ByteArray → Option ByteArray} (h : MapF w M n f) : M < w.heap.size := by
  obtain ⟨D, h1, _⟩ := h
  exact h1.lt

theorem MapArg.below {w w' : World} {v : Value} {g : ByteArray → Option ByteArray} (h : MapArg w v g) (hb : Below w.heap.size w w') : MapArg w' v g := by
  rcases h with h | ⟨b, n, e, h⟩
  · exact .inl h
  · exact .inr ⟨b, n, e, h.below hb h.lt⟩

theorem MapArg.look {w : World} {v : Value} {g : ByteArray → Option ByteArray} (h : MapArg w v g) {k : ByteArray} (hk : k.size ≤ maxLen) : (Instr.lookup 25 v (.string k) true).run Try.prog w = .ok (.tuple #[.string ((g k).getD ByteArray.empty), .bool (g k).isSome]) w := by
  rcases h with ⟨rfl, rfl⟩ | ⟨b, n, rfl, h⟩
  · have := Maps.look_nil (w := w) true law9 Try.underlying25 (zero9 w) (key9 hk)
    simpa using this
  · exact h.look_ok hk

theorem MapArg.shape {w : World} {v : Value} {g : ByteArray → Option ByteArray} (h : MapArg w v g) : ∃ o, v = .map o := by
  rcases h with ⟨rfl, _⟩ | ⟨b, n, rfl, _⟩
  · exact ⟨_, rfl⟩
  · exact ⟨_, rfl⟩

/-- what anchor answers where matchLabels gives none -/
def AnchR (hasSel : Bool) (rs : List Rq) (ms : List ByteArray) (g : ByteArray → Option ByteArray) (key : ByteArray) (vals : List ByteArray) (ok : Bool) : Prop :=
  (ok = true ∧ key ∈ ms ∧ ∃ v, g key = some v ∧ vals = [v]) ∨
  (ok = true ∧ hasSel = true ∧ (∀ k, k ∈ ms → g k = none) ∧ ∃ i, i < rs.length ∧ rs[i]!.op = opIn ∧ key = rs[i]!.key ∧ vals = dist rs[i]!.vals ∧ ∀ j, j < i → rs[j]!.op ≠ opIn) ∨
  (ok = false ∧ key = ByteArray.empty ∧ vals = [] ∧ (∀ k, k ∈ ms → g k = none) ∧ (hasSel = true → ∀ i, i < rs.length → rs[i]!.op ≠ opIn))

def AnchPost (hasSel : Bool) (rs : List Rq) (ms : List ByteArray) (g : ByteArray → Option ByteArray) (w : World) (e : Ending) (w' : World) : Prop :=
  ∃ key v vals ok, e = .returned (.tuple #[.string key, v, .bool ok]) ∧ AnchR hasSel rs ms g key vals ok ∧ SH w' v vals ∧ Below w.heap.size w w'

theorem mem_of_lt {ms : List ByteArray} {g : ByteArray → Option ByteArray} {n : Nat} (hn : ms.length = n) (h : ∀ i, i < n → g (ms.getD i ByteArray.empty) = none) : ∀ k, k ∈ ms → g k = none := fun k hk => by
  obtain ⟨i, hi, e⟩ := List.getElem_of_mem hk
  have := h i (by omega)
  rw [List.getD_eq_getElem?_getD, List.getElem?_eq_getElem hi] at this
  simp [e] at this
  exact this

theorem one_str (w : World) (v : ByteArray) : SH (w.alloc (.cells #[.string v] 9)) (.slice (some ⟨w.heap.size, 0, none⟩) 1 1) [v] := by
  refine ⟨by simp, .inr ⟨w.heap.size, 0, 1, rfl, fun i hi => ?_⟩⟩
  simp at hi
  subst hi
  rw [World.cell?_alloc_at _ _ _ _ rfl]; rfl

set_option maxHeartbeats 4000000 in
set_option maxRecDepth 100000 in
theorem anchNot (hasSel : Bool) (T Pd : Nat) (vm vo : Value) (ls : List (ByteArray × ByteArray)) (rs : List Rq) (ms : List ByteArray) (g : ByteArray → Option ByteArray) (w : World) (hT : TermAt w T hasSel ls rs vm) (hno : hasSel = true → ls = []) (hm : SH w vm ms) (hmf : ∀ i, i < ms.length → (ms.getD i ByteArray.empty).size ≤ maxLen) (hP : w.cell? ⟨Pd, 2, none⟩ = some vo) (hg : MapArg w vo g) (hvl : ∀ i, i < rs.length → rs[i]!.vals.length ≤ 4096) (h2 : rs.length ≤ 4096) :
    Calls Try.prog 10 #[.pointer (some ⟨T, 0, none⟩), .pointer (some ⟨Pd, 0, none⟩)] w (AnchPost hasSel rs ms g w) := by
  have hlook := fun k (hk : ByteArray.size k ≤ maxLen) => hg.look hk
  obtain ⟨oo, rfl⟩ := hg.shape
  obtain ⟨am, cm, rfl, bm, hcm⟩ := hm.gen
  have hln := fun ty => Maps.len_nil (w := w) (P := Try.prog) (k := 9) (e := 9) Try.underlying25 ty
  obtain ⟨hT4, hTs⟩ := hT
  generalize hnm : ms.length = nm at *
  go_enter Try.func10, Try.ntmps10
  go_upto_region 1 with fail
  go_cut [30] (fun v30 wx => v30 = .bool false ∧ wx = w)
  case first =>
    rcases hTs with ⟨rfl, hT0⟩ | ⟨rfl, L, v1, vr, hT0, hL0, hL1, hMI, hRA⟩
    · clear hlook hcm
      go_wp2
      go_meet
      exact ⟨rfl, rfl⟩
    · have hls := hno rfl
      obtain rfl : v1 = .map none := by
        rcases hMI with ⟨_, e⟩ | ⟨e, _⟩
        · exact e
        · exact absurd hls e
      clear hlook hcm hMI hRA
      go_wp2
      go_meet
      exact ⟨rfl, rfl⟩
  case rest =>
    obtain ⟨rfl, rfl⟩ := hcut
    clear hln
    go_wp2
    go_loopw [66] (fun v66 wr => ∃ k : Nat, k ≤ nm ∧ v66 = .int .i64 k ∧ (∀ i, i < k → g (ms.getD i ByteArray.empty) = none) ∧ wr = wc) (fun v66 _ => nm - (intOf v66).toNat)
    case atStart => exact ⟨0, by omega, rfl, fun i hi => absurd hi (Nat.not_lt_zero i), rfl⟩
    case round =>
      obtain ⟨k, hk, rfl, hnone, rfl⟩ := hrel
      by_cases hlt : k < nm
      · obtain ⟨b, off, rfl, hc⟩ := hcm k hlt
        have hlk := hlook _ (hmf k hlt)
        have hmem : ms.getD k ByteArray.empty ∈ ms := mem_getD (by omega)
        have HN : Hid (g (ms.getD k ByteArray.empty) = none → ∀ i, i < k + 1 → g (ms.getD i ByteArray.empty) = none) := fun h i hi => by
          by_cases e : i = k
          · subst e; exact h
          · exact hnone i (by omega)
        have HA : Hid (∀ v, g (ms.getD k ByteArray.empty) = some v → AnchR hasSel rs ms g (ms.getD k ByteArray.empty) [v] true) := fun v h => .inl ⟨rfl, hmem, v, h, rfl⟩
        clear hlook hcm hnone hTs hmem hvl hmf hm
        generalize ms.getD k ByteArray.empty = s at *
        cases hgs : g s with
        | none =>
          rw [hgs] at hlk
          go_wp2
          go_roundw
          case rel => exact ⟨k + 1, by omega, by go_num, HN.out hgs, by first | trivial | rfl⟩
          case measure => simp [intOf]; omega
        | some x =>
          rw [hgs] at hlk
          simp only [Option.getD_some, Option.isSome_some] at hlk
          go_wp2
          go_ret3
          exact ⟨s, _, [x], true, rfl, HA.out x hgs, one_str _ x, (Below.refl _ _).alloc (Nat.le_refl _) _⟩
      · have : k = nm := by omega
        subst this
        have HNo : Hid (∀ k, k ∈ ms → g k = none) := mem_of_lt hnm hnone
        clear hlook hcm hnone hmf
        rcases hTs with ⟨rfl, hT0⟩ | ⟨rfl, L, v1, vr, hT0, hL0, hL1, hMI, hRA⟩
        · go_wp2
          go_ret3
          exact ⟨ByteArray.empty, _, [], false, rfl, .inr (.inr ⟨rfl, rfl, rfl, HNo.out, fun h => by cases h⟩), ⟨by simp, .inl ⟨rfl, _, _, rfl⟩⟩, Below.refl _ _⟩
        · obtain ⟨brr, ar, cr, rfl, hcr⟩ := hRA
          clear hMI hm
          generalize hnr : rs.length = nr at *
          rename World => w0
          go_wp2
          go_loopw [98] (fun v98 wr => ∃ k : Nat, k ≤ nr ∧ v98 = .int .i64 k ∧ (∀ j, j < k → rs[j]!.op ≠ opIn) ∧ Below w0.heap.size w0 wr) (fun v98 _ => nr - (intOf v98).toNat)
          case atStart => exact ⟨0, by omega, rfl, fun i hi => absurd hi (Nat.not_lt_zero i), Below.refl _ _⟩
          case round =>
            obtain ⟨j, hj, rfl, hne, hbk⟩ := hrel
            by_cases hlt2 : j < nr
            · obtain ⟨b, off, vv, rfl, c1, c2, c3, hvv⟩ := hcr j hlt2
              have hbb : b < w0.heap.size := World.block_lt_of_cell? w0 _ c1
              have hSH := hvv.below hbk
              rw [← hbk.cell (p := ⟨b, _, none⟩) hbb] at c1 c2 c3
              obtain ⟨av, cv, rfl⟩ := hvv.shape
              have hvl2 := hvl j hlt2
              have hsz := hbk.size
              have HNe : Hid (rs[j]!.op ≠ opIn → ∀ i, i < j + 1 → rs[i]!.op ≠ opIn) := fun h i hi => by
                by_cases e : i = j
                · subst e; exact h
                · exact hne i (by omega)
              have HAn : Hid (rs[j]!.op = opIn → AnchR true rs ms g rs[j]!.key (dist rs[j]!.vals) true) := fun h => .inr (.inl ⟨rfl, rfl, HNo.out, j, by omega, h, rfl, rfl, hne⟩)
              have hbal : Below w0.heap.size w0 (wr.alloc (.cells #[.string rs[j]!.key, .string rs[j]!.op, .slice av rs[j]!.vals.length cv] 57)) := hbk.alloc hsz _
              have hSH2 : SH (wr.alloc (.cells #[.string rs[j]!.key, .string rs[j]!.op, .slice av rs[j]!.vals.length cv] 57)) (.slice av rs[j]!.vals.length cv) rs[j]!.vals := hSH.below ((Below.refl _ _).alloc (Nat.le_refl _) _)
              clear hne hcr hvl hvv hSH hbk
              generalize rs[j]!.key = x at *
              generalize rs[j]!.op = y at *
              generalize rs[j]!.vals = vs at *
              by_cases he : (y.toList == opIn.toList) = true
              · have hy := (Lib.bytes_beq_iff _ _).1 he
                subst hy
                have HAn2 := HAn.out rfl
                have hd := fun W hW => distinct _ vs W (SH.below hSH2 hW) (by omega)
                generalize hwb : wr.alloc (.cells #[.string x, .string opIn, .slice av vs.length cv] 57) = wb at *
                have e0 : wb.cell? ⟨wr.heap.size, 0, none⟩ = some (.string x) := by rw [← hwb, World.cell?_alloc_at _ _ _ _ rfl]; rfl
                have e1 : wb.cell? ⟨wr.heap.size, 1, none⟩ = some (.string opIn) := by rw [← hwb, World.cell?_alloc_at _ _ _ _ rfl]; rfl
                have he2 : (opIn.toList == [73, 110]) = true := by rw [opIn_list]; rfl
                have he3 : (opIn.toList == ({ data := #[73, 110] } : ByteArray).toList) = true := he
                have e2 : wb.cell? ⟨wr.heap.size, 2, none⟩ = some (.slice av vs.length cv) := by rw [← hwb, World.cell?_alloc_at _ _ _ _ rfl]; rfl
                have hlb : wr.heap.size < wb.heap.size := by rw [← hwb]; simp
                go_wp2_with fail
                try rw [hwb]
                generalize wr.heap.size = bx at *
                clear hwb hSH2 c1 c2 c3 HNe HAn
                have HK : Hid (∀ W, Below wb.heap.size wb W → (W.cell? ⟨bx, 0, none⟩ = some (.string x) ∧ W.cell? ⟨bx, 2, none⟩ = some (.slice av vs.length cv) ∧ Below wb.heap.size wb W)) := fun W hW => ⟨by rw [hW.cell (p := ⟨bx, 0, none⟩) hlb]; exact e0, by rw [hW.cell (p := ⟨bx, 2, none⟩) hlb]; exact e2, hW⟩
                have hbd : Below wb.heap.size wb wb.drew := (Below.refl _ _).drew
                go_region_held3 (fun W => W.cell? ⟨bx, 0, none⟩ = some (.string x) ∧ W.cell? ⟨bx, 2, none⟩ = some (.slice av vs.length cv) ∧ Below wb.heap.size wb W)
                  ((refine HK.out _ ?_; first | exact hbd | assumption))
                  (first | (go_at_call 11; refine (hd _ ?_).mono ?_; exact hbd; rintro e wz ⟨vz, rfl, hSz, hBz⟩; obtain ⟨az, cz, rfl⟩ := hSz.shape; have hBz2 : Below wb.heap.size wb wz := hbd.trans (hBz.mono (Nat.le_refl _))))
                all_goals
                  go_wp2
                  go_ret3
                  exact ⟨x, _, dist vs, true, rfl, HAn2, hSz, hbal.trans (hBz2.mono (Nat.le_trans hsz (Nat.le_of_lt hlb)))⟩
              · have he' : (y.toList == opIn.toList) = false := by simpa using he
                have hy := (Lib.bytes_beq_false_iff _ _).1 he'
                have he2 : (y.toList == [73, 110]) = false := by rw [← opIn_list]; exact he'
                unfold opIn at he'
                go_wp2
                go_roundw
                case rel => exact ⟨j + 1, by omega, by go_num, HNe.out hy, hbal⟩
                case measure => simp [intOf]; omega
            · have : j = nr := by omega
              subst this
              go_wp2
              go_ret3
              exact ⟨ByteArray.empty, _, [], false, rfl, .inr (.inr ⟨rfl, rfl, rfl, HNo.out, fun _ i hi => hne i (by omega)⟩), ⟨by simp, .inl ⟨rfl, _, _, rfl⟩⟩, hbk⟩

end Go.Proofs.Qxb6609488a
