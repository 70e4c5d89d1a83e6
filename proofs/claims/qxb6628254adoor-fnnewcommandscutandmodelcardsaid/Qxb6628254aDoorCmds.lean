import Derived.Test.Qxb6628254aDoorRead
namespace Go.Proofs.Qxb6628254aDoor
open Go.RowKit

/-- the cells of one block -/
structure At1 (w : World) (b j : Nat) (x : Blk) (vl vo : Value) : Prop where
  t : w.cell? ⟨b, j * 5, none⟩ = some (.string x.text)
  p : w.cell? ⟨b, j * 5 + 1, none⟩ = some (.string x.prog)
  f : w.cell? ⟨b, j * 5 + 2, none⟩ = some (.string x.args.flags)
  l : w.cell? ⟨b, j * 5 + 3, none⟩ = some vl
  o : w.cell? ⟨b, j * 5 + 4, none⟩ = some vo
  sl : Sl w vl x.args.long
  so : Sl w vo x.args.ops

/-- a slice of blocks, as it is read -/
def Bl (w : World) (v : Value) (bs : List Blk) : Prop :=
  ∃ (ao : Option Addr) (cap : Nat), v = .slice ao bs.length cap ∧ bs.length ≤ cap ∧ cap ≤ maxLen ∧
    (0 < bs.length → ∃ b, ao = some ⟨b, 0, none⟩ ∧ ∀ j x, bs[j]? = some x → ∃ vl vo, At1 w b j x vl vo)

theorem At1.keep {w w' : World} {b j : Nat} {x : Blk} {vl vo : Value} (h : At1 w b j x vl vo) (hb : Below w.heap.size w w') : At1 w' b j x vl vo :=
  ⟨(hb.cell (World.block_lt_of_cell? w _ h.t)).trans h.t, (hb.cell (World.block_lt_of_cell? w _ h.p)).trans h.p, (hb.cell (World.block_lt_of_cell? w _ h.f)).trans h.f,
    (hb.cell (World.block_lt_of_cell? w _ h.l)).trans h.l, (hb.cell (World.block_lt_of_cell? w _ h.o)).trans h.o, h.sl.keep hb, h.so.keep hb⟩

theorem Bl.keep {w w' : World} {v : Value} {bs : List Blk} (h : Bl w v bs) (hb : Below w.heap.size w w') : Bl w' v bs := by
  obtain ⟨ao, cap, hv, hc, hm, hx⟩ := h
  refine ⟨ao, cap, hv, hc, hm, fun h0 => ?_⟩
  obtain ⟨b, e, hcell⟩ := hx h0
  refine ⟨b, e, fun j x hj => ?_⟩
  obtain ⟨vl, vo, h1⟩ := hcell j x hj
  exact ⟨vl, vo, h1.keep hb⟩

theorem Bl.at {w : World} {v : Value} {bs : List Blk} (h : Bl w v bs) (j : Nat) (hj : j < bs.length) : ∃ b cap vl vo, v = .slice (some ⟨b, 0, none⟩) bs.length cap ∧ At1 w b j bs[j] vl vo := by
  obtain ⟨ao, cap, hv, hc, hm, hx⟩ := h
  obtain ⟨b, e, hcell⟩ := hx (by omega)
  obtain ⟨vl, vo, h1⟩ := hcell j bs[j] (by simp)
  exact ⟨b, cap, vl, vo, by rw [hv, e], h1⟩

theorem text_any (vb va : Value) (bs : List Blk) (w : World) (h : Bl w vb bs) (j : Nat) (hj : j < bs.length) :
    Calls Tryd.prog 16 #[.agg #[vb, va], .int .i64 j] w fun e w' => e = .returned (.string bs[j].text) ∧ Below w.heap.size w w' := by
  obtain ⟨b, cap, vl, vo, rfl, h1⟩ := h.at j hj
  have c0 := h1.t
  have hlt := World.block_lt_of_cell? w _ c0
  go_enter Tryd.func16, Tryd.ntmps16
  go_wp2_with fail
  go_ret
  exact ⟨rfl, (Below.refl _ _).alloc (Nat.le_refl _) _⟩
theorem flags_any (vb va : Value) (bs : List Blk) (w : World) (h : Bl w vb bs) (j : Nat) (hj : j < bs.length) :
    Calls Tryd.prog 29 #[.agg #[vb, va], .int .i64 j] w fun e w' => e = .returned (.string bs[j].args.flags) ∧ Below w.heap.size w w' := by
  obtain ⟨b, cap, vl, vo, rfl, h1⟩ := h.at j hj
  have c0 := h1.f
  have hlt := World.block_lt_of_cell? w _ c0
  go_enter Tryd.func29, Tryd.ntmps29
  go_wp2_with fail
  go_ret
  exact ⟨rfl, (Below.refl _ _).alloc (Nat.le_refl _) _⟩
theorem long_any (vb va : Value) (bs : List Blk) (w : World) (h : Bl w vb bs) (j : Nat) (hj : j < bs.length) :
    Calls Tryd.prog 30 #[.agg #[vb, va], .int .i64 j] w fun e w' => (∃ vl, e = .returned vl ∧ Sl w' vl bs[j].args.long) ∧ Below w.heap.size w w' := by
  obtain ⟨b, cap, vl, vo, rfl, h1⟩ := h.at j hj
  have c0 := h1.l
  have hlt := World.block_lt_of_cell? w _ c0
  go_enter Tryd.func30, Tryd.ntmps30
  go_wp2_with fail
  go_ret
  exact ⟨⟨vl, rfl, h1.sl.keep ((Below.refl _ _).alloc (Nat.le_refl _) _)⟩, (Below.refl _ _).alloc (Nat.le_refl _) _⟩
theorem prog_any (vb va : Value) (bs : List Blk) (w : World) (h : Bl w vb bs) (j : Nat) (hj : j < bs.length) :
    Calls Tryd.prog 18 #[.agg #[vb, va], .int .i64 j] w fun e w' => e = .returned (.string bs[j].prog) ∧ Below w.heap.size w w' := by
  obtain ⟨b, cap, vl, vo, rfl, h1⟩ := h.at j hj
  have c0 := h1.p
  have hlt := World.block_lt_of_cell? w _ c0
  go_enter Tryd.func18, Tryd.ntmps18
  go_wp2_with fail
  go_ret
  exact ⟨rfl, (Below.refl _ _).alloc (Nat.le_refl _) _⟩
theorem ops_any (vb va : Value) (bs : List Blk) (w : World) (h : Bl w vb bs) (j : Nat) (hj : j < bs.length) :
    Calls Tryd.prog 31 #[.agg #[vb, va], .int .i64 j] w fun e w' => (∃ vl, e = .returned vl ∧ Sl w' vl bs[j].args.ops) ∧ Below w.heap.size w w' := by
  obtain ⟨b, cap, vl, vo, rfl, h1⟩ := h.at j hj
  have c0 := h1.o
  have hlt := World.block_lt_of_cell? w _ c0
  go_enter Tryd.func31, Tryd.ntmps31
  go_wp2_with fail
  go_ret
  exact ⟨⟨vo, rfl, h1.so.keep ((Below.refl _ _).alloc (Nat.le_refl _) _)⟩, (Below.refl _ _).alloc (Nat.le_refl _) _⟩

theorem allowed_any (vb va : Value) (w : World) :
    Calls Tryd.prog 10 #[.agg #[vb, va]] w fun e w' => e = .returned va ∧ Below w.heap.size w w' := by
  go_enter Tryd.func10, Tryd.ntmps10
  go_wp2_with fail
  go_ret
  exact ⟨rfl, (Below.refl _ _).alloc (Nat.le_refl _) _⟩

theorem count_any (vb va : Value) (bs : List Blk) (w : World) (h : Bl w vb bs) :
    Calls Tryd.prog 11 #[.agg #[vb, va]] w fun e w' => e = .returned (.int .i64 bs.length) ∧ Below w.heap.size w w' := by
  obtain ⟨ao, cap, rfl, hc, hm, hx⟩ := h
  clear hx
  go_enter Tryd.func11, Tryd.ntmps11
  go_wp2_with fail
  go_ret
  exact ⟨rfl, (Below.refl _ _).alloc (Nat.le_refl _) _⟩
end Go.Proofs.Qxb6628254aDoor
