import Derived.Test.Qxb6628254aDoorCmds
import Derived.Deep.RegionHeld3
import Derived.Lib.AppendIntMem
namespace Go.Proofs.Qxb6628254aDoor
open Go.RowKit

/-! ### strings.Fields, strings.Join over the plain words -/
def Tabs (w : World) : Prop := Lib.TabIs Tryd.prog w "strings.asciiSpace" .u8 Lib.asciiSpaceTab ∧ Lib.WhiteTab 1 w
theorem Tabs.keep {w w' : World} (h : Tabs w) (hb : Below w.heap.size w w') : Tabs w' := ⟨Lib.tabBelow_of_tabIs h.1 w' hb, WhiteTab_below h.2 hb⟩

def FAns (s : ByteArray) (w : World) (e : Ending) (w' : World) : Prop :=
  ∃ A, e = .returned (.slice (some ⟨A, 0, none⟩) (wordsB s).length (wordsB s).length) ∧ Strs w' w.heap.size (.slice (some ⟨A, 0, none⟩) (wordsB s).length (wordsB s).length) (wordsB s) ∧ Below w.heap.size w w'

theorem fields_any (s : ByteArray) (w : World) (hs : s.size ≤ 1048576) (ht : Tabs w) : Calls Tryd.prog 21 #[.string s] w fun e w' => FAns s w e w' := by
  refine (Tryd.strings_Fields_any s w (by omega) ht.1 ht.2).mono ?_
  rintro e w' ⟨A, rfl, _, hown, hb⟩
  have hl : (Lib.fieldsD s.data.toList).length = (wordsB s).length := by unfold wordsB wordsL; rw [List.length_map, Lib.fieldsU_eq]
  have hm : ((Lib.fieldsD s.data.toList).map fun x => Value.string ⟨x.toArray⟩) = (wordsB s).map Value.string := by
    unfold wordsB wordsL
    rw [List.map_map, Lib.fieldsU_eq]
    rfl
  rw [hl, hm] at hown
  exact ⟨A, by rw [hl], hown, hb⟩

theorem sjoin_any (A : Nat) (ws : List ByteArray) (c : Nat) (w : World) (hc : ws.length ≤ c) (ht : total (ws.map (·.data.toList)) ≤ 2097152) (hA : A < w.heap.size) (hx : ∀ j x, ws[j]? = some x → w.cell? ⟨A, j, none⟩ = some (.string x)) :
    Calls Tryd.prog 22 #[.slice (some ⟨A, 0, none⟩) ws.length c, .string ⟨#[32]⟩] w fun e w' => e = .returned (.string (joinB ws)) ∧ Below w.heap.size w w' := by
  have h1 := length_total (ws.map (·.data.toList))
  rw [List.length_map] at h1
  have h2 := join_length (ws.map (·.data.toList))
  refine (Tryd.strings_Join A 0 c ws ⟨#[32]⟩ w (fun j x h => by rw [Nat.zero_add]; exact hx j x h) hA (by omega) hc (by show (Lib.join _ [32]).length ≤ _; omega)).mono ?_
  rintro e w' ⟨rfl, hb⟩
  exact ⟨rfl, hb⟩

/-! ### the row of blocks that NewCommands builds -/
abbrev GB := Blk × Value × Value
def gcell (g : GB) : List Value := [.string g.1.text, .string g.1.prog, .string g.1.args.flags, g.2.1, g.2.2]
def gcells (gs : List GB) : List Value := gs.flatMap gcell

structure NInv (w wr : World) (vb va : Value) (gs : List GB) : Prop where
  res : wr.heap[w.heap.size]? = some (.cells #[.slice none 0 0, .slice none 0 0] 28)
  st : wr.heap[w.heap.size + 1]? = some (.cells #[vb, va] 28)
  row : wr.ownsRow (w.heap.size + 2) 45 5 vb gs.length (gcells gs)
  str : ∀ g ∈ gs, Strs wr (w.heap.size + 2) g.2.1 g.1.args.long ∧ Strs wr (w.heap.size + 2) g.2.2 g.1.args.ops
  bel : Below w.heap.size w wr

theorem below_grown {w w' : World} (hb : Below w.heap.size w w') : w.grownBy w' none := ⟨hb.os, hb.tape, hb.output, hb.size, fun k hk _ => hb.block k hk⟩

theorem own_below {w w' : World} {base : Nat} {e : TypeId} {s n : Nat} {v : Value} {ys : List Value} (h : w.ownsRow base e s v n ys) (hb : Below w.heap.size w w') : w'.ownsRow base e s v n ys := by
  refine h.kept (below_grown hb) ?_
  cases v.ownBlock <;> simp

theorem own_mono {w : World} {base base' : Nat} {e : TypeId} {s n : Nat} {v : Value} {ys : List Value} (h : w.ownsRow base e s v n ys) (hb : base' ≤ base) : w.ownsRow base' e s v n ys := by
  refine ⟨h.1, ?_⟩
  rcases h.2 with h0 | ⟨g, cap, cur, h1, h2, h3⟩
  · exact .inl h0
  · exact .inr ⟨g, cap, cur, h1, by omega, h3⟩

theorem NInv.lts {w wr : World} {vb va : Value} {gs : List GB} (h : NInv w wr vb va gs) : w.heap.size + 1 < wr.heap.size := (Array.getElem?_eq_some_iff.1 h.st).1

theorem NInv.below {w wr w' : World} {vb va : Value} {gs : List GB} (h : NInv w wr vb va gs) (hb : Below wr.heap.size wr w') : NInv w w' vb va gs := by
  have h2 := h.lts
  exact ⟨(hb.block _ (by omega)).trans h.res, (hb.block _ (by omega)).trans h.st, own_below h.row hb, fun g hg => ⟨own_below (h.str g hg).1 hb, own_below (h.str g hg).2 hb⟩, h.bel.trans (hb.mono h.bel.size)⟩

theorem NInv.mid {w wr w3 : World} {vb va : Value} {gs : List GB} (h : NInv w wr vb va gs) (hg : wr.grownBy w3 vb.ownBlock) :
    w3.heap[w.heap.size]? = some (.cells #[.slice none 0 0, .slice none 0 0] 28) ∧ w3.heap[w.heap.size + 1]? = some (.cells #[vb, va] 28) ∧ Below w.heap.size w w3 := by
  have h2 := h.lts
  have hrow : ∀ g, vb.ownBlock = some g → w.heap.size + 2 ≤ g := fun g e => (h.row.lt g e).1
  refine ⟨(hg.block _ (by omega) ?_).trans h.res, (hg.block _ (by omega) ?_).trans h.st, h.bel.grown hg (by omega) (fun g e => by have := hrow g e; omega)⟩
  · intro e; have := hrow _ e.symm; omega
  · intro e; have := hrow _ e.symm; omega

theorem NInv.step {w wr w3 : World} {vb va v' vl vo : Value} {gs : List GB} {b : Blk} (h : NInv w wr vb va gs)
    (hl : Strs wr (w.heap.size + 2) vl b.args.long) (ho : Strs wr (w.heap.size + 2) vo b.args.ops)
    (hown : w3.ownsRow (w.heap.size + 2) 45 5 v' (gs.length + 1) (gcells gs ++ gcell (b, vl, vo))) (hg : wr.grownBy w3 vb.ownBlock) :
    NInv w (w3.setCell ⟨w.heap.size + 1, 0, none⟩ v') v' va (gs ++ [(b, vl, vo)]) := by
  obtain ⟨m1, m2, m3⟩ := h.mid hg
  have keep : ∀ {v : Value} {xs : List ByteArray}, Strs wr (w.heap.size + 2) v xs → Strs (w3.setCell ⟨w.heap.size + 1, 0, none⟩ v') (w.heap.size + 2) v xs := fun {v xs} hs => by
    have ap : Apart v vb := apart_types (by decide) hs h.row
    exact (ap.keep hs hg).kept (set_grown _ _ _) (ne_row hs (Nat.lt_succ_self _))
  refine ⟨(Below.heap_setCell _ _ _ _ (by show w.heap.size ≠ w.heap.size + 1; omega)).trans m1, ?_, ?_, ?_, m3.setCell (by show w.heap.size ≤ w.heap.size + 1; omega) _⟩
  · rw [set_block m2]; rfl
  · rw [List.length_append]
    have e : gcells (gs ++ [(b, vl, vo)]) = gcells gs ++ gcell (b, vl, vo) := by simp [gcells]
    rw [e]
    exact hown.kept (set_grown _ _ _) (ne_row hown (Nat.lt_succ_self _))
  · intro g hgm
    rw [List.mem_append, List.mem_singleton] at hgm
    rcases hgm with hgm | rfl
    · exact ⟨keep (h.str g hgm).1, keep (h.str g hgm).2⟩
    · exact ⟨keep hl, keep ho⟩

theorem cells2 {w : World} {b : Nat} {x y : Value} {t : TypeId} (h : w.heap[b]? = some (.cells #[x, y] t)) : w.cell? ⟨b, 0, none⟩ = some x ∧ w.cell? ⟨b, 1, none⟩ = some y ∧ w.frozen? ⟨b, 0, none⟩ = false ∧ w.frozen? ⟨b, 1, none⟩ = false := by
  simp [World.cell?, World.frozen?, h]

theorem gcells_length (gs : List GB) : (gcells gs).length = gs.length * 5 := by
  induction gs with
  | nil => rfl
  | cons g r ih => simp only [gcells, List.flatMap_cons, List.length_append, List.length_cons] at *; rw [ih]; simp [gcell]; omega

theorem gcells_at (gs : List GB) (j i : Nat) (g : GB) (hj : gs[j]? = some g) (hi : i < 5) : (gcells gs)[j * 5 + i]? = (gcell g)[i]? := by
  induction gs generalizing j with
  | nil => simp at hj
  | cons h r ih =>
    have e : gcells (h :: r) = gcell h ++ gcells r := by simp [gcells]
    rw [e]
    cases j with
    | zero =>
      simp at hj
      subst hj
      rw [List.getElem?_append_left (by simp [gcell]; omega)]
      simp
    | succ j =>
      simp at hj
      rw [List.getElem?_append_right (by simp [gcell]; omega), ← ih j hj]
      congr 1
      simp [gcell]
      omega

/-- the row, as it is read -/
theorem row_bl {wr : World} {base : Nat} {vb : Value} {gs : List GB} (hrow : wr.ownsRow base 45 5 vb gs.length (gcells gs))
    (hstr : ∀ g ∈ gs, Strs wr base g.2.1 g.1.args.long ∧ Strs wr base g.2.2 g.1.args.ops) : Bl wr vb (gs.map (·.1)) := by
  have hl : (gs.map (·.1)).length = gs.length := by simp
  rcases hrow.2 with ⟨hv, h0⟩ | ⟨g, cap, cur, hv, hg, hh, hnc, hcm, hcs, htk⟩
  · exact ⟨none, 0, by rw [hv, hl, h0], by omega, Nat.zero_le _, fun h => absurd h (by omega)⟩
  · refine ⟨_, cap, by rw [hl]; exact hv, by omega, hcm, fun _ => ⟨g, rfl, fun j x hj => ?_⟩⟩
    rw [List.getElem?_map, Option.map_eq_some_iff] at hj
    obtain ⟨y, hy, rfl⟩ := hj
    have cell : ∀ i u, i < 5 → (gcell y)[i]? = some u → wr.cell? ⟨g, j * 5 + i, none⟩ = some u := fun i u hi hu => by
      have := hrow.cells (g := g) (by rw [hv]; rfl) (j * 5 + i) u (by rw [gcells_at gs j i y hy hi]; exact hu)
      rw [Go.WideShapes.add_plain] at this
      simpa using this
    have hs := hstr y (List.mem_of_getElem? hy)
    exact ⟨y.2.1, y.2.2, cell 0 _ (by omega) rfl, cell 1 _ (by omega) rfl, cell 2 _ (by omega) rfl, cell 3 _ (by omega) rfl, cell 4 _ (by omega) rfl, hs.1.sl, hs.2.sl⟩
end Go.Proofs.Qxb6628254aDoor
