import Derived.Test.Qxb6628292aFmtConst
import Derived.Maps.AppendAt
import Derived.Laws.OwnMore
import Derived.Deep.AppendLies
namespace Go.Proofs.Qxb6628292aFmt
open Go.RowKit

theorem Tryf.info3 : (Tryf.prog.info? 3).map (fun i => (i.zero, i.size, i.bytes)) = some (some (.int .i64 0), 1, 8) := by kernel_rfl
theorem Tryf.info36 : (Tryf.prog.info? 36).map (fun i => (i.zero, i.size, i.bytes)) = some (some (.agg #[.string ⟨#[]⟩, .string ⟨#[]⟩, .slice none 0 0]), 3, 56) := by kernel_rfl

/-- the i-th instant -/
def wk (i : Nat) : Int := 1767571230 + 30 * (i : Int)

/-- the instants below k -/
def ints (k : Nat) : List Value := (List.range k).map fun i => .int .i64 (wk i)

theorem ints_succ (k : Nat) : ints (k + 1) = ints k ++ [.int .i64 (wk k)] := by simp [ints, List.range_succ]

theorem below_grown {w w' : World} (hb : Below w.heap.size w w') : w.grownBy w' none := ⟨hb.os, hb.tape, hb.output, hb.size, fun k hk _ => hb.block k hk⟩

theorem own_below {w w' : World} {base : Nat} {e : TypeId} {s n : Nat} {v : Value} {ys : List Value} (h : w.ownsRow base e s v n ys) (hb : Below w.heap.size w w') : w'.ownsRow base e s v n ys := by
  refine h.kept (below_grown hb) ?_
  cases v.ownBlock <;> simp

/-- the week behind k rounds -/
structure WInv (w wr : World) (v : Value) (k : Nat) : Prop where
  own : wr.ownsRow w.heap.size 3 1 v k (ints k)
  bel : Below w.heap.size w wr

theorem WInv.step {w wr w' : World} {v v' : Value} {k : Nat} {o : Obj} (h : WInv w wr v k) (hown : w'.ownsRow w.heap.size 3 1 v' (k + 1) (ints k ++ [.int .i64 (wk k)])) (hg : (wr.alloc o).grownBy w' v.ownBlock) : WInv w w' v' (k + 1) := by
  have h1 := h.bel.size
  refine ⟨?_, (h.bel.alloc (by omega) o).grown hg (by simp; omega) (fun k hk => (h.own.lt k hk).1)⟩
  rw [ints_succ]
  exact hown

theorem WInv.wk {w wr : World} {v : Value} {k : Nat} (h : WInv w wr v k) (hk : 0 < k) : Wk wr v k wk := by
  obtain ⟨h1, h2⟩ := h.own
  rcases h2 with ⟨_, h0⟩ | ⟨g, cap, cur, hv, hb, hh, hc, hm, hs, ht⟩
  · omega
  · subst hv
    refine ⟨g, cap, rfl, hc, hm, fun i hi => ?_⟩
    have := h.own.cellAt i (by omega)
    rw [this]
    simp [ints, hi]

/-- one series: its metric, labels, value, and the block of its samples -/
structure Sg where
  m : ByteArray
  l : ByteArray
  v : Nat
  b : Nat

def scell (g : Sg) : List Value := [.string g.m, .string g.l, .slice (some ⟨g.b, 0, none⟩) 20159 20159]
def scells (gs : List Sg) : List Value := gs.flatMap scell

/-- the samples' block -/
def Row (w : World) (g : Sg) : Prop := w.rowIs g.b 52 (20159 * 2) (sam wk g.v 20159)

theorem Row.keep {w w' : World} {g : Sg} (h : Row w g) (hb : Below w.heap.size w w') : Row w' g := World.rowIs.of_block h (hb.block _ h.lt)

theorem Row.sm {w : World} {g : Sg} (h : Row w g) : Sm w (.slice (some ⟨g.b, 0, none⟩) 20159 20159) g.v := by
  refine ⟨g.b, rfl, fun i hi => ⟨?_, ?_⟩⟩
  · rw [World.rowIs.cell h (i := i * 2) (by omega)]
    have a1 : i * 2 < 20159 * 2 := by omega
    have a2 : i * 2 % 2 = 0 := by omega
    have a3 : i * 2 / 2 = i := by omega
    simp only [sam, if_pos a1, if_pos a2, a3, wk]
  · rw [World.rowIs.cell h (i := i * 2 + 1) (by omega)]
    have a1 : i * 2 + 1 < 20159 * 2 := by omega
    have a2 : ¬ (i * 2 + 1) % 2 = 0 := by omega
    simp only [sam, if_pos a1, if_neg a2]

/-- a slice of series that the call has built -/
structure SInv (base : Nat) (w : World) (v : Value) (gs : List Sg) : Prop where
  own : w.ownsRow base 36 3 v gs.length (scells gs)
  rows : ∀ g ∈ gs, Row w g

theorem SInv.keep {base : Nat} {w w' : World} {v : Value} {gs : List Sg} (h : SInv base w v gs) (hb : Below w.heap.size w w') : SInv base w' v gs :=
  ⟨own_below h.own hb, fun g hg => (h.rows g hg).keep hb⟩

theorem row_grown {base : Nat} {w w' : World} {v : Value} {n : Nat} {xs : List Value} {g : Sg} (h : Row w g) (ho : w.ownsRow base 36 3 v n xs) (hg : w.grownBy w' v.ownBlock) : Row w' g := by
  refine World.rowIs.of_block h (hg.block _ h.lt ?_)
  intro e
  rcases ho.2 with ⟨hv, _⟩ | ⟨b, cap, cur, hv, _, hh, _⟩
  · rw [hv] at e; cases e
  · rw [hv] at e
    have e2 : g.b = b := by simpa [Value.ownBlock] using e
    obtain ⟨c, hb, _⟩ := h
    rw [e2, hh] at hb
    cases hb

theorem SInv.step {base : Nat} {w w' : World} {v v' : Value} {gs : List Sg} {g : Sg} {o : Obj} (h : SInv base w v gs) (hr : Row w g)
    (hown : w'.ownsRow base 36 3 v' (gs.length + 1) (scells gs ++ scell g)) (hg : (w.alloc o).grownBy w' v.ownBlock) : SInv base w' v' (gs ++ [g]) := by
  refine ⟨?_, fun x hx => ?_⟩
  · have e : scells (gs ++ [g]) = scells gs ++ scell g := by simp [scells]
    rw [e, List.length_append]
    exact hown
  · have hb : Below w.heap.size w (w.alloc o) := (Below.refl _ _).alloc (Nat.le_refl _) _
    rcases List.mem_append.1 hx with h1 | h1
    · exact row_grown ((h.rows x h1).keep hb) (h.own.alloc o) hg
    · rw [List.mem_singleton.1 h1]; exact row_grown (hr.keep hb) (h.own.alloc o) hg

theorem scells_at (gs : List Sg) (j i : Nat) (g : Sg) (hj : gs[j]? = some g) (hi : i < 3) : (scells gs)[j * 3 + i]? = (scell g)[i]? := by
  induction gs generalizing j with
  | nil => simp at hj
  | cons x r ih =>
    have e : scells (x :: r) = scell x ++ scells r := by simp [scells]
    have hl : (scell x).length = 3 := rfl
    rw [e]
    cases j with
    | zero =>
      simp at hj
      subst hj
      rw [List.getElem?_append_left (by omega)]
      simp
    | succ j =>
      rw [List.getElem?_append_right (by omega), hl]
      have := ih j (by simpa using hj)
      rw [show (j + 1) * 3 + i - 3 = j * 3 + i by omega]
      exact this

/-- a slice of series, as it is read -/
def Ss (w : World) (v : Value) (gs : List Sg) : Prop :=
  ∃ b cap, v = .slice (some ⟨b, 0, none⟩) gs.length cap ∧ ∀ j g, gs[j]? = some g → w.cell? ⟨b, j * 3, none⟩ = some (.string g.m) ∧ w.cell? ⟨b, j * 3 + 1, none⟩ = some (.string g.l) ∧ w.cell? ⟨b, j * 3 + 2, none⟩ = some (.slice (some ⟨g.b, 0, none⟩) 20159 20159) ∧ Row w g

theorem Ss.keep {w w' : World} {v : Value} {gs : List Sg} (h : Ss w v gs) (hb : Below w.heap.size w w') : Ss w' v gs := by
  obtain ⟨b, cap, e, hc⟩ := h
  refine ⟨b, cap, e, fun j g hj => ?_⟩
  obtain ⟨h1, h2, h3, h4⟩ := hc j g hj
  exact ⟨cell_step h1 hb, cell_step h2 hb, cell_step h3 hb, h4.keep hb⟩

theorem SInv.ss {base : Nat} {w : World} {v : Value} {gs : List Sg} (h : SInv base w v gs) (hn : 0 < gs.length) : Ss w v gs := by
  rcases h.own.2 with ⟨_, h0⟩ | ⟨b, cap, cur, hv, hb, hh, hc, hm, hs, ht⟩
  · omega
  · subst hv
    refine ⟨b, cap, rfl, fun j g hj => ?_⟩
    have hlt : j < gs.length := (List.getElem?_eq_some_iff.1 hj).1
    have hmem : g ∈ gs := List.mem_of_getElem? hj
    refine ⟨?_, ?_, ?_, h.rows g hmem⟩
    · rw [h.own.cellAt _ (by omega), show j * 3 = j * 3 + 0 from rfl, scells_at gs j 0 g hj (by omega)]; rfl
    · rw [h.own.cellAt _ (by omega), scells_at gs j 1 g hj (by omega)]; rfl
    · rw [h.own.cellAt _ (by omega), scells_at gs j 2 g hj (by omega)]; rfl

theorem SInv.two (base : Nat) (w : World) (hb : base ≤ w.heap.size) (g1 g2 : Sg) (r1 : Row w g1) (r2 : Row w g2) :
    SInv base (w.alloc (.cells #[.string g1.m, .string g1.l, .slice (some ⟨g1.b, 0, none⟩) 20159 20159, .string g2.m, .string g2.l, .slice (some ⟨g2.b, 0, none⟩) 20159 20159] 36)) (.slice (some ⟨w.heap.size, 0, none⟩) 2 2) [g1, g2] := by
  have hk : Below w.heap.size w (w.alloc (.cells #[.string g1.m, .string g1.l, .slice (some ⟨g1.b, 0, none⟩) 20159 20159, .string g2.m, .string g2.l, .slice (some ⟨g2.b, 0, none⟩) 20159 20159] 36)) := (Below.refl _ _).alloc (Nat.le_refl _) _
  refine ⟨World.ownsRow_lit w _ 2 hb (by decide) rfl, fun g hg => ?_⟩
  simp at hg
  rcases hg with rfl | rfl
  · exact r1.keep hk
  · exact r2.keep hk
end Go.Proofs.Qxb6628292aFmt
