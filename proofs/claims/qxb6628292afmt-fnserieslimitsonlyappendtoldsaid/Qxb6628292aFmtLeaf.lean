import Derived.Test.Qxb6628292aFmtFloat
import Derived.Outline
namespace Go.Proofs.Qxb6628292aFmt
open Go.RowKit

theorem samefloat_any (v : Nat) (w : World) :
    Calls Tryf.prog 16 #[.float .f64 v, .float .f64 v] w fun e w' => e = .returned (.bool true) ∧ w' = w := by
  rcases order_self v with h | h
  · go_enter Tryf.func16, Tryf.ntmps16
    go_wp2_with fail
    go_ret
    exact ⟨rfl, rfl⟩
  · by_cases h0 : FloatKind.f64.format.order v 0 = some .eq
    · obtain ⟨r, hr, hrr⟩ := one_over h0
      have hq : ∀ w, (binOp .quo 22 (.float .f64 4607182418800017408) (.float .f64 v)).run Tryf.prog w = .ok (.float .f64 r) w := fun w => run_float_arith (w := w) .quo 22 .f64 _ _ r hr
      go_enter Tryf.func16, Tryf.ntmps16
      go_wp2_with fail
      go_ret
      exact ⟨rfl, rfl⟩
    · have h1 : (FloatKind.f64.format.order v 0 == some .eq) = false := by simpa using h0
      go_enter Tryf.func16, Tryf.ntmps16
      go_wp2_with fail
      go_ret
      exact ⟨rfl, rfl⟩

theorem cell_step {W W' : World} {p : Addr} {x : Value} (h : W.cell? p = some x) (hb : Below W.heap.size W W') : W'.cell? p = some x := (hb.cell (World.block_lt_of_cell? W _ h)).trans h

/-- the samples of one week, each of the value v -/
def Sm (w : World) (vs : Value) (v : Nat) : Prop :=
  ∃ b, vs = .slice (some ⟨b, 0, none⟩) 20159 20159 ∧ ∀ i : Nat, i < 20159 → w.cell? ⟨b, i * 2, none⟩ = some (.int .i64 (1767571230 + 30 * (i : Int))) ∧ w.cell? ⟨b, i * 2 + 1, none⟩ = some (.float .f64 v)

theorem Sm.keep {w w' : World} {vs : Value} {v : Nat} (h : Sm w vs v) (hb : Below w.heap.size w w') : Sm w' vs v := by
  obtain ⟨b, e, hc⟩ := h
  exact ⟨b, e, fun i hi => ⟨cell_step (hc i hi).1 hb, cell_step (hc i hi).2 hb⟩⟩

/-- a series: its metric, its labels, its constant value -/
def Sd (w : World) (x : Value) (m l : ByteArray) (v : Nat) : Prop := ∃ vs, x = .agg #[.string m, .string l, vs] ∧ Sm w vs v

theorem Sd.keep {w w' : World} {x : Value} {m l : ByteArray} {v : Nat} (h : Sd w x m l v) (hb : Below w.heap.size w w') : Sd w' x m l v := by
  obtain ⟨vs, e, hs⟩ := h
  exact ⟨vs, e, hs.keep hb⟩

theorem zlabels_any {m l : ByteArray} {v : Nat} {x : Value} {w : World} (h : Sd w x m l v) :
    Calls Tryf.prog 7 #[x] w fun e w' => e = .returned (.string l) ∧ Below w.heap.size w w' := by
  obtain ⟨vs, rfl, b, rfl, _⟩ := h
  go_enter Tryf.func7, Tryf.ntmps7
  go_wp2_with fail
  go_ret
  exact ⟨rfl, (Below.refl _ _).alloc (Nat.le_refl _) _⟩

theorem zmetric_any {m l : ByteArray} {v : Nat} {x : Value} {w : World} (h : Sd w x m l v) :
    Calls Tryf.prog 9 #[x] w fun e w' => e = .returned (.string m) ∧ Below w.heap.size w w' := by
  obtain ⟨vs, rfl, b, rfl, _⟩ := h
  go_enter Tryf.func9, Tryf.ntmps9
  go_wp2_with fail
  go_ret
  exact ⟨rfl, (Below.refl _ _).alloc (Nat.le_refl _) _⟩

theorem zlen_any {m l : ByteArray} {v : Nat} {x : Value} {w : World} (h : Sd w x m l v) :
    Calls Tryf.prog 14 #[x] w fun e w' => e = .returned (.int .i64 20159) ∧ Below w.heap.size w w' := by
  obtain ⟨vs, rfl, b, rfl, _⟩ := h
  go_enter Tryf.func14, Tryf.ntmps14
  go_wp2_with fail
  go_ret
  exact ⟨rfl, (Below.refl _ _).alloc (Nat.le_refl _) _⟩

theorem zt_any {m l : ByteArray} {v : Nat} {x : Value} {w : World} (h : Sd w x m l v) (i : Nat) (hi : i < 20159) :
    Calls Tryf.prog 15 #[x, .int .i64 i] w fun e w' => e = .returned (.int .i64 (1767571200 + 30 * ((i : Int) + 1))) ∧ Below w.heap.size w w' := by
  obtain ⟨vs, rfl, b, rfl, hc⟩ := h
  have c0 := (hc i hi).1
  rw [show (1767571230 + 30 * (i : Int)) = 1767571200 + 30 * ((i : Int) + 1) by omega] at c0
  have hlt := World.block_lt_of_cell? w _ c0
  clear hc
  go_enter Tryf.func15, Tryf.ntmps15
  go_wp2_with fail
  go_ret
  exact ⟨rfl, (Below.refl _ _).alloc (Nat.le_refl _) _⟩

theorem zv_any {m l : ByteArray} {v : Nat} {x : Value} {w : World} (h : Sd w x m l v) (i : Nat) (hi : i < 20159) :
    Calls Tryf.prog 17 #[x, .int .i64 i] w fun e w' => e = .returned (.float .f64 v) ∧ Below w.heap.size w w' := by
  obtain ⟨vs, rfl, b, rfl, hc⟩ := h
  have c0 := (hc i hi).2
  have hlt := World.block_lt_of_cell? w _ c0
  clear hc
  go_enter Tryf.func17, Tryf.ntmps17
  go_wp2_with fail
  go_ret
  exact ⟨rfl, (Below.refl _ _).alloc (Nat.le_refl _) _⟩
end Go.Proofs.Qxb6628292aFmt
