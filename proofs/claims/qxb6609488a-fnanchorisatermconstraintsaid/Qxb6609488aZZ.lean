/-
  ZZanchor: what the term and its owner give.
-/
import Derived.Test.Qxb6609488aAnchA
namespace Go.Proofs.Qxb6609488a
open Go.RowKit Go.Maps

/-- what anchor answers -/
def Ans (hasSel : Bool) (ls : List (ByteArray × ByteArray)) (rs : List Rq) (ms : List ByteArray) (g : ByteArray → Option ByteArray) (key : ByteArray) (vals : List ByteArray) (ok : Bool) : Prop :=
  (hasSel = true ∧ ls ≠ [] ∧ ok = true ∧ ∃ x, lastOf ls key ls.length = some x ∧ vals = [x]) ∨ ((hasSel = true → ls = []) ∧ AnchR hasSel rs ms g key vals ok)

def AnsPost (hasSel : Bool) (ls : List (ByteArray × ByteArray)) (rs : List Rq) (ms : List ByteArray) (g : ByteArray → Option ByteArray) (w : World) (e : Ending) (w' : World) : Prop :=
  ∃ key v vals ok, e = .returned (.tuple #[.string key, v, .bool ok]) ∧ Ans hasSel ls rs ms g key vals ok ∧ SH w' v vals ∧ Below w.heap.size w w'

theorem anchor (hasSel : Bool) (T Pd : Nat) (vm vo : Value) (ls : List (ByteArray × ByteArray)) (rs : List Rq) (ms : List ByteArray) (g : ByteArray → Option ByteArray) (w : World) (hT : TermAt w T hasSel ls rs vm) (hf : Fits ls) (hm : SH w vm ms) (hmf : ∀ i, i < ms.length → (ms.getD i ByteArray.empty).size ≤ maxLen) (hP : w.cell? ⟨Pd, 2, none⟩ = some vo) (hg : MapArg w vo g) (hvl : ∀ i, i < rs.length → rs[i]!.vals.length ≤ 4096) (h2 : rs.length ≤ 4096) :
    Calls Try.prog 10 #[.pointer (some ⟨T, 0, none⟩), .pointer (some ⟨Pd, 0, none⟩)] w (AnsPost hasSel ls rs ms g w) := by
  by_cases hno : hasSel = true → ls = []
  · refine (anchNot hasSel T Pd vm vo ls rs ms g w hT hno hm hmf hP hg hvl h2).mono ?_
    rintro e w' ⟨key, v, vals, ok, rfl, hA, hS, hB⟩
    exact ⟨key, v, vals, ok, rfl, .inr ⟨hno, hA⟩, hS, hB⟩
  · have h1 : hasSel = true := by
      cases hasSel
      · exact absurd (fun h => by cases h) hno
      · rfl
    have h2 : ls ≠ [] := fun e => hno (fun _ => e)
    obtain ⟨_, ⟨e, _⟩ | ⟨_, L, v1, vr, hT0, hL0, _, hMI, _⟩⟩ := hT
    · rw [h1] at e; cases e
    · rcases hMI with ⟨e, _⟩ | ⟨_, M, n, rfl, _, hM⟩
      · exact absurd e h2
      · refine (anchA T Pd L M n ls w hT0 hL0 hM (List.length_pos_iff.2 h2) hf).mono ?_
        rintro e w' ⟨key, v, x, rfl, _, hx, hS, hB⟩
        exact ⟨key, v, [x], true, rfl, .inl ⟨h1, h2, rfl, x, hx, rfl⟩, hS, hB⟩

set_option maxHeartbeats 1000000 in
theorem zzAnchor (hasSel : Bool) (T Pd : Nat) (vm vo : Value) (ls : List (ByteArray × ByteArray)) (rs : List Rq) (ms : List ByteArray) (g : ByteArray → Option ByteArray) (w : World) (hT : TermAt w T hasSel ls rs vm) (hf : Fits ls) (hm : SH w vm ms) (hmf : ∀ i, i < ms.length → (ms.getD i ByteArray.empty).size ≤ maxLen) (hP : w.cell? ⟨Pd, 2, none⟩ = some vo) (hg : MapArg w vo g) (hvl : ∀ i, i < rs.length → rs[i]!.vals.length ≤ 4096) (h2 : rs.length ≤ 4096) :
    Calls Try.prog 6 #[.pointer (some ⟨T, 0, none⟩), .pointer (some ⟨Pd, 0, none⟩)] w (AnsPost hasSel ls rs ms g w) := by
  have hd := anchor hasSel T Pd vm vo ls rs ms g w hT hf hm hmf hP hg hvl h2
  clear hT hf hm hmf hP hg hvl h2
  go_enter Try.func6, Try.ntmps6
  go_wp2_with (go_at_call 10; refine hd.mono ?_; rintro e w' ⟨key, v, vals, ok, rfl, hA, hS, hB⟩; obtain ⟨a, c, rfl⟩ := hS.shape; have H : AnsPost hasSel ls rs ms g w (.returned (.tuple #[.string key, .slice a vals.length c, .bool ok])) w' := ⟨key, _, vals, ok, rfl, hA, hS, hB⟩; clear hA hS hB)
  go_ret3
  exact H

end Go.Proofs.Qxb6609488a
