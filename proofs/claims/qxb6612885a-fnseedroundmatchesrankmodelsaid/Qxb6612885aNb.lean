/-
  Neighbours in memory; the walk of toNeighbours.
-/
import Derived.Test.Qxb6612885aFltW
import Derived.Test.Qxb6612885aKeep
import Derived.Laws.MakeOwn
import Derived.Laws.IdiomCopy
namespace Go.Proofs.Qxb6612885a
open Go.RowKit

@[go_sem] theorem run_store_float (P : Program) (w : World) (a : Addr) (m : Mode) (k : FloatKind) (b : Nat) : (store a (.float k b) m).run P w = stored P w a (.float k b) m := run_store P w a _ m rfl

/-- a neighbour: its flags, its three floats' bits -/
structure N where
  it : Bool
  un : Bool
  op : Bool
  ua : Nat
  ra : Nat
  ld : Nat
deriving Inhabited

/-- a neighbour lies at an address -/
def NAt (w : World) (b o : Nat) (x : N) : Prop :=
  w.cell? ⟨b, o, none⟩ = some (.bool x.it) ∧ w.cell? ⟨b, o + 1, none⟩ = some (.bool x.un) ∧ w.cell? ⟨b, o + 2, none⟩ = some (.bool x.op) ∧
  w.cell? ⟨b, o + 3, none⟩ = some (.float .f64 x.ua) ∧ w.cell? ⟨b, o + 4, none⟩ = some (.float .f64 x.ra) ∧ w.cell? ⟨b, o + 5, none⟩ = some (.float .f64 x.ld)

def N.cells (x : N) : List Value := [.bool x.it, .bool x.un, .bool x.op, .float .f64 x.ua, .float .f64 x.ra, .float .f64 x.ld]

theorem put6 (w : World) (b o : Nat) (x : N) : (((((w.setCell ⟨b, o, none⟩ (.bool x.it)).setCell ⟨b, o + 1, none⟩ (.bool x.un)).setCell ⟨b, o + 2, none⟩ (.bool x.op)).setCell ⟨b, o + 3, none⟩ (.float .f64 x.ua)).setCell ⟨b, o + 4, none⟩ (.float .f64 x.ra)).setCell ⟨b, o + 5, none⟩ (.float .f64 x.ld)
    = w.setCells b o x.cells := rfl

theorem NAt.put (w : World) (b o : Nat) (x : N) (h : ∀ c, c < 6 → ∃ v, w.cell? ⟨b, o + c, none⟩ = some v) : NAt (w.setCells b o x.cells) b o x := by
  have hc := World.cell?_setCells_in b x.cells o w (fun j hj => by obtain ⟨v, hv⟩ := h j hj; rw [hv]; rfl)
  exact ⟨hc 0 (by show 0 < 6; omega), hc 1 (by show 1 < 6; omega), hc 2 (by show 2 < 6; omega), hc 3 (by show 3 < 6; omega), hc 4 (by show 4 < 6; omega), hc 5 (by show 5 < 6; omega)⟩

theorem NAt.of_cells {w w' : World} {b o : Nat} {x : N} (h : NAt w b o x) (hc : ∀ c, c < 6 → w'.cell? ⟨b, o + c, none⟩ = w.cell? ⟨b, o + c, none⟩) : NAt w' b o x := by
  obtain ⟨h0, h1, h2, h3, h4, h5⟩ := h
  exact ⟨(hc 0 (by omega)).trans h0, (hc 1 (by omega)).trans h1, (hc 2 (by omega)).trans h2, (hc 3 (by omega)).trans h3, (hc 4 (by omega)).trans h4, (hc 5 (by omega)).trans h5⟩

theorem NAt.get {w : World} {b o : Nat} {x : N} (h : NAt w b o x) (c : Nat) (hc : c < 6) : ∃ v, w.cell? ⟨b, o + c, none⟩ = some v := by
  obtain ⟨h0, h1, h2, h3, h4, h5⟩ := h
  have : c = 0 ∨ c = 1 ∨ c = 2 ∨ c = 3 ∨ c = 4 ∨ c = 5 := by omega
  rcases this with rfl | rfl | rfl | rfl | rfl | rfl
  · exact ⟨_, h0⟩
  · exact ⟨_, h1⟩
  · exact ⟨_, h2⟩
  · exact ⟨_, h3⟩
  · exact ⟨_, h4⟩
  · exact ⟨_, h5⟩

theorem Keep.setCells {X : List Nat} {a w : World} (h : Keep X a w) {b : Nat} (hp : b ∈ X ∨ a.heap.size ≤ b) (vs : List Value) : ∀ o, Keep X a (w.setCells b o vs) := by
  induction vs generalizing w with
  | nil => exact fun _ => h
  | cons v r ih => exact fun o => ih (h.setCell (p := ⟨b, o, none⟩) hp v) (o + 1)

theorem Tag.setCells {w : World} {b : Nat} {t : TypeId} (h : Tag w b t) (b2 : Nat) (vs : List Value) : ∀ o, Tag (w.setCells b2 o vs) b t := by
  induction vs generalizing w with
  | nil => exact fun _ => h
  | cons v r ih => exact fun o => ih (h.setCell ⟨b2, o, none⟩ v) (o + 1)

theorem tag_own {w : World} {base g n cap : Nat} {e : TypeId} {size : Nat} {xs : List Value} (h : w.ownsRow base e size (.slice (some ⟨g, 0, none⟩) n cap) n xs) : Tag w g e := by
  rcases h.2 with ⟨h0, _⟩ | ⟨g', cap', cur, h0, _, hg, _⟩
  · cases h0
  · simp at h0
    obtain ⟨rfl, rfl⟩ := h0
    exact ⟨cur, hg⟩

/-- a list of neighbours lies in a row, none of whose cells is frozen -/
def NsAt (w : World) (b : Nat) (ns : List N) : Prop := ∀ i, i < ns.length → NAt w b (i * 6) ns[i]! ∧ ∀ c, c < 6 → w.frozen? ⟨b, i * 6 + c, none⟩ = false

/-- ... and is handed over as a slice -/
def NArg (w : World) (v : Value) (ns : List N) : Prop := (ns = [] ∧ ∃ a c, v = .slice a 0 c) ∨ ∃ b off c, v = .slice (some ⟨b, off, none⟩) ns.length c ∧ b < w.heap.size ∧ ∀ i, i < ns.length → NAt w b (off + i * 6) ns[i]!

theorem cells28 : Try.prog.cellsOf 28 = 6 := by kernel_rfl
theorem cells42 : Try.prog.cellsOf 42 = 6 := by kernel_rfl

theorem info42 : (Try.prog.info? 42).map (fun i => (i.zero, i.size, i.bytes)) = some (some (.agg #[.bool false, .bool false, .bool false, .float .f64 0, .float .f64 0, .float .f64 0]), 6, 32) := by kernel_rfl
theorem info4 : (Try.prog.info? 4).map (fun i => (i.zero, i.size, i.bytes)) = some (some (.bool false), 1, 1) := by kernel_rfl

theorem info_parts {t : TypeId} {z : Value} {s b : Nat} (h : (Try.prog.info? t).map (fun i => (i.zero, i.size, i.bytes)) = some (some z, s, b)) : ∃ i, Try.prog.info? t = some i ∧ i.zero = some z ∧ i.size = s ∧ i.bytes = b := by
  cases e : Try.prog.info? t with
  | none => rw [e] at h; cases h
  | some i => rw [e] at h; simp at h; exact ⟨i, rfl, h.1, h.2.1, h.2.2⟩

set_option maxHeartbeats 1000000 in
theorem toNb_walk (v : Value) (ns : List N) (hn2 : ns.length ≤ 4096) (w : World) (hv : NArg w v ns) :
    Calls Try.prog 10 #[v] w fun e w' => e = .returned (.slice (some ⟨w.heap.size, 0, none⟩) ns.length ns.length) ∧ NsAt w' w.heap.size ns ∧ Keep [] w w' ∧ Tag w' w.heap.size 42 := by
  obtain ⟨i0, hi, hz0, hz1, hz2⟩ := info_parts info42
  obtain ⟨n, hn⟩ : ∃ n, ns.length = n := ⟨_, rfl⟩
  have HN : Hid (ns.length = n) := hn
  obtain ⟨a, cap, rfl, hns⟩ : ∃ a c, v = .slice a n c ∧ ∀ i, i < n → ∃ b off, a = some ⟨b, off, none⟩ ∧ b < w.heap.size ∧ NAt w b (off + i * 6) ns[i]! := by
    rcases hv with ⟨rfl, a, c, rfl⟩ | ⟨b, off, c, rfl, hb, h⟩
    · simp at hn; subst hn
      exact ⟨a, c, rfl, fun i hi => absurd hi (Nat.not_lt_zero i)⟩
    · exact ⟨_, c, by rw [hn], fun i hi => ⟨b, off, rfl, hb, h i (by omega)⟩⟩
  have HP : ∀ w', (∀ i, i < n → NAt w' w.heap.size (i * 6) ns[i]!) → (∀ o, o < n * 6 → (∃ v, w'.cell? ⟨w.heap.size, o, none⟩ = some v) ∧ w'.frozen? ⟨w.heap.size, o, none⟩ = false) → NsAt w' w.heap.size ns := fun w' h1 h2 i hi =>
    ⟨h1 i (by omega), fun c hc => (h2 (i * 6 + c) (by omega)).2⟩
  rw [hn] at hn2 ⊢
  clear hn hv
  go_enter Try.func10, Try.ntmps10
  go_wp2_with (at_make; refine wpList_make_full _ rfl _ _ 29 rfl w.heap.size 42 i0 _ 6 Try.underlying29 hi hz0 hz1 _ _ _ _ n rfl rfl rfl rfl (by rw [hz2]; omega) (by unfold maxLen; omega) (Nat.le_refl _) ?_; intro w1 hown hgr)
  have hk1 : ∀ o, o < n * 6 → (∃ v, w1.cell? ⟨w.heap.size, o, none⟩ = some v) ∧ w1.frozen? ⟨w.heap.size, o, none⟩ = false := fun o ho => ⟨by
    rw [hown.cellAt o ho]
    exact ⟨_, List.getElem?_eq_getElem (by rw [hown.1]; exact ho)⟩, hown.frozenAt o⟩
  have hkeep : Keep [] w w1 := ⟨hgr.os, hgr.tape, hgr.output, hgr.size, fun k hk _ => hgr.block k hk (by simp)⟩
  have hsz : Tag w1 w.heap.size 42 := tag_own hown
  clear hown hgr hi hz0 hz1 hz2
  go_loopw [4] (fun i wr => ∃ k : Nat, k ≤ n ∧ i = .int .i64 k ∧ Keep [] w wr ∧ Tag wr w.heap.size 42 ∧ (∀ o, o < n * 6 → (∃ v, wr.cell? ⟨w.heap.size, o, none⟩ = some v) ∧ wr.frozen? ⟨w.heap.size, o, none⟩ = false) ∧ ∀ i, i < k → NAt wr w.heap.size (i * 6) ns[i]!) (fun i _ => n - (intOf i).toNat)
  case atStart => exact ⟨0, by omega, rfl, hkeep, hsz, hk1, fun i hi => absurd hi (Nat.not_lt_zero i)⟩
  case round =>
    obtain ⟨k, hk, rfl, hkp, hsr, hfr, hat⟩ := hrel
    by_cases hlt : k < n
    · obtain ⟨b, off, rfl, hb, hx⟩ := hns k hlt
      have hkp2 := hkp.setCells (b := w.heap.size) (.inr (Nat.le_refl _)) ns[k]!.cells (k * 6)
      have hsz2 : Tag (wr.setCells w.heap.size (k * 6) ns[k]!.cells) w.heap.size 42 := hsr.setCells _ _ _
      have hfr2 : ∀ o, o < n * 6 → (∃ v, (wr.setCells w.heap.size (k * 6) ns[k]!.cells).cell? ⟨w.heap.size, o, none⟩ = some v) ∧ (wr.setCells w.heap.size (k * 6) ns[k]!.cells).frozen? ⟨w.heap.size, o, none⟩ = false := fun o ho => by
        refine ⟨?_, by rw [World.frozen?_setCells]; exact (hfr o ho).2⟩
        by_cases hin : k * 6 ≤ o ∧ o < k * 6 + 6
        · have hg := (NAt.put wr w.heap.size (k * 6) ns[k]! (fun c hc => (hfr _ (by omega)).1)).get (o - k * 6) (by omega)
          rw [show k * 6 + (o - k * 6) = o by omega] at hg
          exact hg
        · rw [World.cell?_setCells_out _ _ _ _ _ (fun _ _ => by show o < k * 6 ∨ k * 6 + 6 ≤ o; omega)]
          exact (hfr o ho).1
      have hat2 : ∀ i, i < k + 1 → NAt (wr.setCells w.heap.size (k * 6) ns[k]!.cells) w.heap.size (i * 6) ns[i]! := fun i hi => by
        by_cases hik : i = k
        · subst hik
          exact NAt.put wr w.heap.size (i * 6) ns[i]! (fun c hc => (hfr _ (by omega)).1)
        · exact (hat i (by omega)).of_cells fun c hc => World.cell?_setCells_out _ _ _ _ _ (fun _ _ => by show i * 6 + c < k * 6 ∨ k * 6 + 6 ≤ i * 6 + c; omega)
      have HE : Hid _ := (⟨k + 1, by omega, rfl, hkp2, hsz2, hfr2, hat2⟩ : ∃ j : Nat, j ≤ n ∧ Value.int .i64 ((k : Int) + 1) = .int .i64 (j : Nat) ∧ Keep [] w (wr.setCells w.heap.size (k * 6) ns[k]!.cells) ∧ Tag (wr.setCells w.heap.size (k * 6) ns[k]!.cells) w.heap.size 42 ∧ (∀ o, o < n * 6 → (∃ v, (wr.setCells w.heap.size (k * 6) ns[k]!.cells).cell? ⟨w.heap.size, o, none⟩ = some v) ∧ (wr.setCells w.heap.size (k * 6) ns[k]!.cells).frozen? ⟨w.heap.size, o, none⟩ = false) ∧ ∀ i, i < j → NAt (wr.setCells w.heap.size (k * 6) ns[k]!.cells) w.heap.size (i * 6) ns[i]!)
      clear hkp2 hsz2 hfr2 hat2 hat
      obtain ⟨c0, c1, c2, c3, c4, c5⟩ := hx
      rw [← hkp.cell hb (by simp)] at c0 c1 c2 c3 c4 c5
      obtain ⟨⟨v0, d0⟩, f0⟩ := hfr (k * 6) (by omega)
      obtain ⟨⟨v1, d1⟩, f1⟩ := hfr (k * 6 + 1) (by omega)
      obtain ⟨⟨v2, d2⟩, f2⟩ := hfr (k * 6 + 2) (by omega)
      obtain ⟨⟨v3, d3⟩, f3⟩ := hfr (k * 6 + 3) (by omega)
      obtain ⟨⟨v4, d4⟩, f4⟩ := hfr (k * 6 + 4) (by omega)
      obtain ⟨⟨v5, d5⟩, f5⟩ := hfr (k * 6 + 5) (by omega)
      rw [← put6] at HE
      generalize hx : ns[k]! = x at HE c0 c1 c2 c3 c4 c5
      clear hfr hns HP hk1 hkp hkeep hx hsr hsz
      go_wp2
      go_roundw
      case rel => exact HE.out
      case measure => simp [intOf]; omega
    · have : k = n := by omega
      subst this
      go_wp2
      go_ret
      exact ⟨rfl, HP _ hat hfr, hkp, hsr⟩

end Go.Proofs.Qxb6612885a
