import Derived.Test.Qxb6628292aFmtSer
namespace Go.Proofs.Qxb6628292aFmt
open Go.RowKit Go.Extern.Stop Go.Stop Go.Extern
attribute [local go_sem] run_store_float

theorem zseries_any (F : Interp) (a b c : ByteArray) (f1 f2 f3 f4 : Nat) (w : World) (hF : F.answers w.tape) (hl : (labB F a b c).size ≤ 2000000) :
    Calls Tryf.prog 6 #[.agg #[.string a, .string b, .string c, .float .f64 f1, .float .f64 f2, .float .f64 f3, .float .f64 f4]] w fun e w' => SAns (labB F a b c) f1 f2 f3 f4 w e w' := by
  obtain ⟨w1, hw1⟩ : ∃ w1, w.alloc (.cells #[.string a, .string b, .string c, .float .f64 f1, .float .f64 f2, .float .f64 f3, .float .f64 f4] 25) = w1 := ⟨_, rfl⟩
  have hb1 : Below w.heap.size w w1 := by rw [← hw1]; exact (Below.refl _ _).alloc (Nat.le_refl _) _
  have HB1 := Hid.mk' hb1
  have C : Hid (Calls Tryf.prog 13 #[.agg #[.string a, .string b, .string c, .float .f64 f1, .float .f64 f2, .float .f64 f3, .float .f64 f4], .slice none 0 0, .map none] w1 fun e w' => SAns (labB F a b c) f1 f2 f3 f4 w1 e w') := series_any F a b c f1 f2 f3 f4 w1 (by rw [hb1.tape]; exact hF) hl
  have HW1 := Hid.mk' hw1
  clear hb1 hw1 hF hl
  go_enter Tryf.func6, Tryf.ntmps6
  go_wp2_with fail
  rw [HW1.out]
  clear HW1
  refine C.out.mono ?_
  rintro e w2 ⟨v, gs, rfl, h1, h2, h3⟩
  have H : Hid (SAns (labB F a b c) f1 f2 f3 f4 w (.returned (.tuple #[v, .nilIface])) w2) := ⟨v, gs, rfl, h1, h2, HB1.out.trans (h3.mono HB1.out.size)⟩
  clear h1 h2 h3 C
  go_wp2_with fail
  go_ret2
  exact H.out

theorem S12.step {w1 W W' : World} {p q r s t u : Addr} {x y z x' y' z' : Value} (h : Below w1.heap.size w1 W ∧ W.cell? p = some x ∧ W.cell? q = some y ∧ W.cell? r = some z ∧ W.cell? s = some x' ∧ W.cell? t = some y' ∧ W.cell? u = some z') (hb : Below W.heap.size W W') :
    Below w1.heap.size w1 W' ∧ W'.cell? p = some x ∧ W'.cell? q = some y ∧ W'.cell? r = some z ∧ W'.cell? s = some x' ∧ W'.cell? t = some y' ∧ W'.cell? u = some z' := by
  obtain ⟨h0, h1, h2, h3, h4, h5, h6⟩ := h
  exact ⟨h0.trans (hb.mono h0.size), cell_step h1 hb, cell_step h2 hb, cell_step h3 hb, cell_step h4 hb, cell_step h5 hb, cell_step h6 hb⟩

theorem fin12 {w w1 W : World} {q : Prop} (h1 : Below w.heap.size w w1) (h2 : Below w1.heap.size w1 W ∧ q) : Below w.heap.size w W := h1.trans (h2.1.mono h1.size)

set_option maxHeartbeats 1000000 in
theorem sameser_any {m l : ByteArray} {v : Nat} {x y : Value} {w : World} (hx : Sd w x m l v) (hy : Sd w y m l v) :
    Calls Tryf.prog 12 #[x, y] w fun e w' => e = .returned (.bool true) ∧ Below w.heap.size w w' := by
  have HX : Hid (Sd w x m l v) := hx
  have HY : Hid (Sd w y m l v) := hy
  obtain ⟨_, rfl, b1, rfl, _⟩ := hx
  obtain ⟨_, rfl, b2, rfl, _⟩ := hy
  obtain ⟨w1, hw1⟩ : ∃ w1, (w.alloc (.cells #[.string m, .string l, .slice (some ⟨b1, 0, none⟩) 20159 20159] 36)).alloc (.cells #[.string m, .string l, .slice (some ⟨b2, 0, none⟩) 20159 20159] 36) = w1 := ⟨_, rfl⟩
  have hb1 : Below w.heap.size w w1 := by rw [← hw1]; exact ((Below.refl _ _).alloc (Nat.le_refl _) _).alloc (by simp) _
  have HB1 := Hid.mk' hb1
  have q0 : w1.heap[w.heap.size]? = some (.cells #[.string m, .string l, .slice (some ⟨b1, 0, none⟩) 20159 20159] 36) := by
    rw [← hw1]; exact (Below.heap_alloc _ _ _ (by simp)).trans (heap_alloc_new _ _)
  have q1 : w1.heap[w.heap.size + 1]? = some (.cells #[.string m, .string l, .slice (some ⟨b2, 0, none⟩) 20159 20159] 36) := by
    rw [← hw1]
    have h := heap_alloc_new (w.alloc (.cells #[.string m, .string l, .slice (some ⟨b1, 0, none⟩) 20159 20159] 36)) (.cells #[.string m, .string l, .slice (some ⟨b2, 0, none⟩) 20159 20159] 36)
    simpa using h
  obtain ⟨k0, k1, k2, _, _, _⟩ := cells3 q0
  obtain ⟨l0, l1, l2, _, _, _⟩ := cells3 q1
  have HW1 := Hid.mk' hw1
  clear hb1 q0 q1 hw1
  have hx1 := HX.out.keep HB1.out
  have hy1 := HY.out.keep HB1.out
  go_enter Tryf.func12, Tryf.ntmps12
  go_wp2_with fail
  rw [HW1.out]
  clear HW1
  go_region_held3 (fun W => Below w1.heap.size w1 W ∧ W.cell? ⟨w.heap.size, 0, none⟩ = some (.string m) ∧ W.cell? ⟨w.heap.size, 1, none⟩ = some (.string l) ∧ W.cell? ⟨w.heap.size, 2, none⟩ = some (.slice (some ⟨b1, 0, none⟩) 20159 20159) ∧ W.cell? ⟨w.heap.size + 1, 0, none⟩ = some (.string m) ∧ W.cell? ⟨w.heap.size + 1, 1, none⟩ = some (.string l) ∧ W.cell? ⟨w.heap.size + 1, 2, none⟩ = some (.slice (some ⟨b2, 0, none⟩) 20159 20159)) (first | exact ⟨(Below.refl _ _).drew, k0, k1, k2, l0, l1, l2⟩ | assumption | exact S12.step (by assumption) (by assumption)) (first
    | (go_at_call 9; refine (zmetric_any (m := m) (l := l) (v := v) (Sd.keep (by assumption) (And.left (by assumption)))).mono ?_; rintro e w2 ⟨rfl, hb2⟩)
    | (go_at_call 7; refine (zlabels_any (m := m) (l := l) (v := v) (Sd.keep (by assumption) (And.left (by assumption)))).mono ?_; rintro e w3 ⟨rfl, hb3⟩))
  all_goals go_wp2_with fail
  refine (zlen_any (m := m) (l := l) (v := v) (Sd.keep hx1 (And.left (by assumption)))).mono ?_
  rintro e w4 ⟨rfl, hb4⟩
  have hs4 : Below w1.heap.size w1 w4 ∧ w4.cell? ⟨w.heap.size, 0, none⟩ = some (.string m) ∧ w4.cell? ⟨w.heap.size, 1, none⟩ = some (.string l) ∧ w4.cell? ⟨w.heap.size, 2, none⟩ = some (.slice (some ⟨b1, 0, none⟩) 20159 20159) ∧ w4.cell? ⟨w.heap.size + 1, 0, none⟩ = some (.string m) ∧ w4.cell? ⟨w.heap.size + 1, 1, none⟩ = some (.string l) ∧ w4.cell? ⟨w.heap.size + 1, 2, none⟩ = some (.slice (some ⟨b2, 0, none⟩) 20159 20159) := S12.step (by assumption) hb4
  obtain ⟨g0, g1, g2, g3, h1, h2, h3⟩ := hs4
  have HB4 := Hid.mk' g0
  clear g0 hb4
  go_wp2_with fail
  refine (zlen_any (m := m) (l := l) (v := v) (Sd.keep hy1 HB4.out)).mono ?_
  rintro e w5 ⟨rfl, hb5⟩
  have HB5 : Hid (Below w1.heap.size w1 w5) := HB4.out.trans (hb5.mono HB4.out.size)
  clear hb5 g1 g2 g3 h1 h2 h3
  have HX1 := Hid.mk' hx1
  have HY1 := Hid.mk' hy1
  clear hx1 hy1
  go_wp2_with fail
  go_loopw [6] (fun i wr => ∃ k : Nat, k ≤ 20159 ∧ i = .int .i64 k ∧ Below w1.heap.size w1 wr) (fun i _ => 20159 - (intOf i).toNat)
  case atStart => exact ⟨0, Nat.zero_le _, rfl, HB5.out⟩
  case round =>
    obtain ⟨k, hk, rfl, hbel⟩ := hrel
    have HBr := Hid.mk' hbel
    have k0r := cell_step k0 hbel
    have k1r := cell_step k1 hbel
    have k2r := cell_step k2 hbel
    have l0r := cell_step l0 hbel
    have l1r := cell_step l1 hbel
    have l2r := cell_step l2 hbel
    have HFin : Hid (Below w.heap.size w wr) := HB1.out.trans (hbel.mono HB1.out.size)
    have hxr := HX1.out.keep hbel
    have hyr := HY1.out.keep hbel
    clear hbel
    by_cases hlt : k < 20159
    · have HK : Hid (k < 20159) := hlt
      have hlt2 : (k : Int) < 20159 := by omega
      clear hlt hk
      go_wp2_with fail
      go_region_held3 (fun W => Below wr.heap.size wr W ∧ W.cell? ⟨w.heap.size, 0, none⟩ = some (.string m) ∧ W.cell? ⟨w.heap.size, 1, none⟩ = some (.string l) ∧ W.cell? ⟨w.heap.size, 2, none⟩ = some (.slice (some ⟨b1, 0, none⟩) 20159 20159) ∧ W.cell? ⟨w.heap.size + 1, 0, none⟩ = some (.string m) ∧ W.cell? ⟨w.heap.size + 1, 1, none⟩ = some (.string l) ∧ W.cell? ⟨w.heap.size + 1, 2, none⟩ = some (.slice (some ⟨b2, 0, none⟩) 20159 20159)) (first | exact ⟨(Below.refl _ _).drew, k0r, k1r, k2r, l0r, l1r, l2r⟩ | assumption | exact S12.step (by assumption) (by assumption)) (first
        | (go_at_call 15; refine (zt_any (m := m) (l := l) (v := v) (Sd.keep (by assumption) (And.left (by assumption))) k HK.out).mono ?_; rintro e w6 ⟨rfl, hb6⟩))
      all_goals go_wp2_with fail
      have hs6 : Below wr.heap.size wr w6 ∧ w6.cell? ⟨w.heap.size, 0, none⟩ = some (.string m) ∧ w6.cell? ⟨w.heap.size, 1, none⟩ = some (.string l) ∧ w6.cell? ⟨w.heap.size, 2, none⟩ = some (.slice (some ⟨b1, 0, none⟩) 20159 20159) ∧ w6.cell? ⟨w.heap.size + 1, 0, none⟩ = some (.string m) ∧ w6.cell? ⟨w.heap.size + 1, 1, none⟩ = some (.string l) ∧ w6.cell? ⟨w.heap.size + 1, 2, none⟩ = some (.slice (some ⟨b2, 0, none⟩) 20159 20159) := by assumption
      go_region_held3 (fun W => Below wr.heap.size wr W ∧ W.cell? ⟨w.heap.size, 0, none⟩ = some (.string m) ∧ W.cell? ⟨w.heap.size, 1, none⟩ = some (.string l) ∧ W.cell? ⟨w.heap.size, 2, none⟩ = some (.slice (some ⟨b1, 0, none⟩) 20159 20159) ∧ W.cell? ⟨w.heap.size + 1, 0, none⟩ = some (.string m) ∧ W.cell? ⟨w.heap.size + 1, 1, none⟩ = some (.string l) ∧ W.cell? ⟨w.heap.size + 1, 2, none⟩ = some (.slice (some ⟨b2, 0, none⟩) 20159 20159)) (first | exact ⟨hs6.1.drew, hs6.2⟩ | assumption | exact S12.step (by assumption) (by assumption)) (first
        | (go_at_call 17; refine (zv_any (m := m) (l := l) (v := v) (Sd.keep (by assumption) (And.left (by assumption))) k HK.out).mono ?_; rintro e w7 ⟨rfl, hb7⟩)
        | (go_at_call 16; refine (samefloat_any v _).mono ?_; rintro e w8 ⟨rfl, rfl⟩))
      all_goals go_wp2_with fail
      go_roundw
      case rel => exact ⟨k + 1, by have := HK.out; omega, by go_num, fin12 HBr.out (by assumption)⟩
      case measure => have := HK.out; simp [intOf]; omega
    · obtain rfl : k = 20159 := by omega
      go_wp2_with fail
      go_ret
      exact ⟨rfl, HFin.out⟩
end Go.Proofs.Qxb6628292aFmt
