/-
  anchorTooBig.
-/
import Derived.Test.Qxb6609488aSets
import Derived.Deep.DeepCutAuto
import Derived.Deep.CutRange
import Derived.Deep.Cut
namespace Go.Proofs.Qxb6609488a
open Go.RowKit

/-- a requirement -/
structure Rq where
  key : ByteArray
  op : ByteArray
  vals : List ByteArray
deriving Inhabited

/-- a []Req value that leads to the requirements rs -/
def RA (w : World) (v : Value) (rs : List Rq) : Prop :=
  rs.length ≤ 9223372036854775807 ∧ ∃ a c, v = .slice a rs.length c ∧ ∀ i, i < rs.length → ∃ b off vv, a = some ⟨b, off, none⟩ ∧ w.cell? ⟨b, off + i * 3, none⟩ = some (.string rs[i]!.key) ∧ w.cell? ⟨b, off + i * 3 + 1, none⟩ = some (.string rs[i]!.op) ∧ w.cell? ⟨b, off + i * 3 + 2, none⟩ = some vv ∧ SH w vv rs[i]!.vals

theorem RA.below {w w' : World} {v : Value} {rs : List Rq} (h : RA w v rs) (hb : Below w.heap.size w w') : RA w' v rs := by
  obtain ⟨hl, a, c, e, hc⟩ := h
  refine ⟨hl, a, c, e, fun i hi => ?_⟩
  obtain ⟨b, off, vv, ea, h1, h2, h3, h4⟩ := hc i hi
  exact ⟨b, off, vv, ea, by rw [hb.cell (World.block_lt_of_cell? w _ h1)]; exact h1, by rw [hb.cell (World.block_lt_of_cell? w _ h2)]; exact h2, by rw [hb.cell (World.block_lt_of_cell? w _ h3)]; exact h3, h4.below hb⟩

/-- what a false answer says -/
def Small (ls : List (ByteArray × ByteArray)) (rs : List Rq) (ms : List ByteArray) : Prop := ls.length ≤ 65536 ∧ rs.length ≤ 4096 ∧ ms.length ≤ 65536 ∧ ∀ i, i < rs.length → rs[i]!.vals.length ≤ 4096

def BigPost (ls : List (ByteArray × ByteArray)) (rs : List Rq) (ms : List ByteArray) (w : World) (e : Ending) (w' : World) : Prop := ∃ r, e = .returned (.bool r) ∧ (r = false → Small ls rs ms) ∧ ∃ q, w' = w.drewN q

set_option maxHeartbeats 4000000 in
set_option maxRecDepth 100000 in
theorem tooBig (vl ve vm vo : Value) (ls : List (ByteArray × ByteArray)) (rs : List Rq) (ms : List ByteArray) (sz : Int) (w : World) (hl : KA w vl ls) (hr : RA w ve rs) (hm : SH w vm ms) (hsz : ∀ q ty, (Builtin.len_ #[25] ty #[vo]).run Try.prog (w.drewN q) = .ok (.int .i64 sz) (w.drewN q)) :
    Calls Try.prog 4 #[vl, ve, vm, vo] w (BigPost ls rs ms w) := by
  obtain ⟨bl, al, cl, rfl, hcl⟩ := hl
  obtain ⟨br, ar, cr, rfl, hcr⟩ := hr
  obtain ⟨am, cm, rfl, bm, hcm⟩ := hm.gen
  have hS : Hid (∀ (h1 : ls.length ≤ 65536) (h2 : rs.length ≤ 4096) (h3 : ms.length ≤ 65536) (h4 : ∀ i, i < rs.length → rs[i]!.vals.length ≤ 4096), Small ls rs ms) := fun a b c d => ⟨a, b, c, d⟩
  have hsz0 := hsz 0
  rw [World.drewN_zero] at hsz0
  clear hm hsz
  generalize hnl : ls.length = nl at *
  generalize hnr : rs.length = nr at *
  generalize hnm : ms.length = nm at *
  by_cases h1 : nl ≤ 65536
  · by_cases h2 : nr ≤ 4096
    · by_cases h3 : nm ≤ 65536
      · by_cases h5 : sz ≤ 65536
        · have h5' : decide ((65536 : Int) < sz) = false := by simp; omega
          have hS3 : Hid (∀ (h4 : ∀ i, i < nr → rs[i]!.vals.length ≤ 4096), Small ls rs ms) := fun h4 => hS.out h1 h2 h3 h4
          clear hS
          go_enter Try.func4, Try.ntmps4
          go_wp2
          go_loopw [9, 10] (fun v9 v10 wr => ∃ (k : Nat) (z : Int), k ≤ nl ∧ v10 = .int .i64 k ∧ v9 = .int .i64 z ∧ ∃ q, wr = w.drewN q) (fun _ v10 _ => nl - (intOf v10).toNat)
          case atStart => exact ⟨0, 0, by omega, rfl, rfl, 0, rfl⟩
          case round =>
            obtain ⟨k, z, hk, rfl, rfl, q, rfl⟩ := hrel
            by_cases hlt : k < nl
            · obtain ⟨b, off, rfl, c1, c2⟩ := hcl k hlt
              clear hcl hcr hcm
              generalize ls[k]!.1 = x at *
              generalize ls[k]!.2 = y at *
              go_wp2_with fail
              go_quiet (fail)
              go_wp2
              go_roundw
              case rel => exact ⟨k + 1, _, by omega, by go_num, rfl, _, rfl⟩
              case measure => simp [intOf]; omega
            · have : k = nl := by omega
              subst this
              go_wp2
              go_loopw [9, 11] (fun v9 v11 wr => ∃ (k2 : Nat) (z : Int), k2 ≤ nr ∧ v11 = .int .i64 k2 ∧ v9 = .int .i64 z ∧ (∀ i, i < k2 → rs[i]!.vals.length ≤ 4096) ∧ ∃ q, wr = w.drewN q) (fun _ v11 _ => nr - (intOf v11).toNat)
              case atStart => exact ⟨0, z, by omega, rfl, rfl, fun i hi => absurd hi (Nat.not_lt_zero i), q, rfl⟩
              case round =>
                obtain ⟨k2, z2, hk2, rfl, rfl, hv, q2, rfl⟩ := hrel
                by_cases hlt2 : k2 < nr
                · obtain ⟨b, off, vv, rfl, c1, c2, c3, hvv⟩ := hcr k2 hlt2
                  obtain ⟨av, cv, rfl, bv, hcv⟩ := hvv.gen
                  clear hvv
                  generalize hnv : rs[k2]!.vals.length = nv at *
                  by_cases h4 : nv ≤ 4096
                  · have HV : Hid (∀ i, i < k2 + 1 → rs[i]!.vals.length ≤ 4096) := fun i hi => by
                      by_cases e : i = k2
                      · subst e; rw [hnv]; exact h4
                      · exact hv i (by omega)
                    clear hv hnv hcl hcr hcm
                    generalize rs[k2]!.key = x at *
                    generalize rs[k2]!.op = y at *
                    generalize rs[k2]!.vals = vs at *
                    go_wp2_with fail
                    go_quiet (fail)
                    go_wp2
                    go_loopw [9, 12] (fun v9 v12 wr => ∃ (k3 : Nat) (z : Int), k3 ≤ nv ∧ v12 = .int .i64 k3 ∧ v9 = .int .i64 z ∧ ∃ q, wr = w.drewN q) (fun _ v12 _ => nv - (intOf v12).toNat)
                    case atStart => exact ⟨0, _, by omega, rfl, rfl, _, World.drewN_drewN _ _ _⟩
                    case round =>
                      obtain ⟨k3, z3, hk3, rfl, rfl, q3, rfl⟩ := hrel
                      by_cases hlt3 : k3 < nv
                      · obtain ⟨b3, off3, rfl, c4⟩ := hcv k3 hlt3
                        clear hcv
                        generalize vs.getD k3 ByteArray.empty = s at *
                        go_wp2
                        go_roundw
                        case rel => exact ⟨k3 + 1, _, by omega, by go_num, rfl, _, rfl⟩
                        case measure => simp [intOf]; omega
                      · have : k3 = nv := by omega
                        subst this
                        go_wp2
                        go_roundw
                        case rel => exact ⟨k2 + 1, _, by omega, by go_num, rfl, HV.out, _, rfl⟩
                        case measure => simp [intOf]; omega
                  · clear hcl hcr hcm hcv
                    generalize rs[k2]!.key = x at *
                    generalize rs[k2]!.op = y at *
                    go_wp2
                    go_ret
                    exact ⟨true, rfl, (fun h => by cases h), _, rfl⟩
                · have : k2 = nr := by omega
                  subst this
                  have HSm : Hid (Small ls rs ms) := hS3.out hv
                  clear hv hS3 hcl hcr
                  go_wp2
                  go_loopw [9, 13] (fun v9 v13 wr => ∃ (k4 : Nat) (z : Int), k4 ≤ nm ∧ v13 = .int .i64 k4 ∧ v9 = .int .i64 z ∧ ∃ q, wr = w.drewN q) (fun _ v13 _ => nm - (intOf v13).toNat)
                  case atStart => exact ⟨0, z2, by omega, rfl, rfl, q2, rfl⟩
                  case round =>
                    obtain ⟨k4, z4, hk4, rfl, rfl, q4, rfl⟩ := hrel
                    by_cases hlt4 : k4 < nm
                    · obtain ⟨b4, off4, rfl, c4⟩ := hcm k4 hlt4
                      clear hcm
                      generalize ms.getD k4 ByteArray.empty = s at *
                      go_wp2
                      go_roundw
                      case rel => exact ⟨k4 + 1, _, by omega, by go_num, rfl, _, rfl⟩
                      case measure => simp [intOf]; omega
                    · go_wp2
                      go_ret
                      exact ⟨_, rfl, fun _ => HSm.out, _, rfl⟩
        · have h5' : (65536 : Int) < sz := by omega
          clear hcl hcr hcm hS
          go_enter Try.func4, Try.ntmps4
          go_wp2
          go_ret
          exact ⟨true, rfl, (fun h => by cases h), 0, rfl⟩
      · clear hcl hcr hcm hS
        go_enter Try.func4, Try.ntmps4
        go_wp2
        go_ret
        exact ⟨true, rfl, (fun h => by cases h), 0, rfl⟩
    · clear hcl hcr hcm hS
      go_enter Try.func4, Try.ntmps4
      go_wp2
      go_ret
      exact ⟨true, rfl, (fun h => by cases h), 0, rfl⟩
  · clear hcl hcr hcm hS
    go_enter Try.func4, Try.ntmps4
    go_wp2
    go_ret
    exact ⟨true, rfl, (fun h => by cases h), 0, rfl⟩

end Go.Proofs.Qxb6609488a
