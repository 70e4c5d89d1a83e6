import Derived.Test.Qxb6628292aFmtLeaf
namespace Go.Proofs.Qxb6628292aFmt
open Go.RowKit

/-- a bool, whichever -/
def IsB (e : Ending) : Prop := ∃ r : Bool, e = .returned (.bool r)

theorem bytes5_any (a b c : ByteArray) (f1 f2 f3 f4 : Nat) (w : World) (ha : a.size ≤ maxLen) (hb : b.size ≤ maxLen) (hc : c.size ≤ maxLen) :
    Calls Tryf.prog 5 #[.string a, .string b, .string c, .float .f64 f1, .float .f64 f2, .float .f64 f3, .float .f64 f4] w fun e w' => IsB e ∧ w' = w := by
  unfold maxLen at *
  by_cases h1 : (1048576 : Int) < a.size
  · go_enter Tryf.func5, Tryf.ntmps5
    go_wp2_with fail
    go_ret
    exact ⟨⟨_, rfl⟩, rfl⟩
  by_cases h2 : (1048576 : Int) < b.size
  · go_enter Tryf.func5, Tryf.ntmps5
    go_wp2_with fail
    go_ret
    exact ⟨⟨_, rfl⟩, rfl⟩
  by_cases h3 : (1048576 : Int) < (a.size : Int) + b.size
  · go_enter Tryf.func5, Tryf.ntmps5
    go_wp2_with fail
    go_ret
    exact ⟨⟨_, rfl⟩, rfl⟩
  by_cases h4 : (1048576 : Int) < c.size
  · go_enter Tryf.func5, Tryf.ntmps5
    go_wp2_with fail
    go_ret
    exact ⟨⟨_, rfl⟩, rfl⟩
  by_cases h5 : (1048576 : Int) < (a.size : Int) + b.size + c.size
  · go_enter Tryf.func5, Tryf.ntmps5
    go_wp2_with fail
    go_ret
    exact ⟨⟨_, rfl⟩, rfl⟩
  · go_enter Tryf.func5, Tryf.ntmps5
    go_wp2_with fail
    go_ret
    exact ⟨⟨_, rfl⟩, rfl⟩

theorem bytes11_any (a b c : ByteArray) (f1 f2 f3 f4 : Nat) (w : World) (ha : a.size ≤ maxLen) (hb : b.size ≤ maxLen) (hc : c.size ≤ maxLen) :
    Calls Tryf.prog 11 #[.string a, .string b, .string c, .float .f64 f1, .float .f64 f2, .float .f64 f3, .float .f64 f4] w fun e w' => IsB e ∧ w' = w := by
  unfold maxLen at *
  by_cases h1 : (1048576 : Int) < a.size
  · go_enter Tryf.func11, Tryf.ntmps11
    go_wp2_with fail
    go_ret
    exact ⟨⟨_, rfl⟩, rfl⟩
  by_cases h2 : (1048576 : Int) < b.size
  · go_enter Tryf.func11, Tryf.ntmps11
    go_wp2_with fail
    go_ret
    exact ⟨⟨_, rfl⟩, rfl⟩
  by_cases h3 : (1048576 : Int) < (a.size : Int) + b.size
  · go_enter Tryf.func11, Tryf.ntmps11
    go_wp2_with fail
    go_ret
    exact ⟨⟨_, rfl⟩, rfl⟩
  by_cases h4 : (1048576 : Int) < c.size
  · go_enter Tryf.func11, Tryf.ntmps11
    go_wp2_with fail
    go_ret
    exact ⟨⟨_, rfl⟩, rfl⟩
  by_cases h5 : (1048576 : Int) < (a.size : Int) + b.size + c.size
  · go_enter Tryf.func11, Tryf.ntmps11
    go_wp2_with fail
    go_ret
    exact ⟨⟨_, rfl⟩, rfl⟩
  · go_enter Tryf.func11, Tryf.ntmps11
    go_wp2_with fail
    go_ret
    exact ⟨⟨_, rfl⟩, rfl⟩

theorem Hid.mk' {p : Prop} (h : p) : Hid p := h

theorem cells3 {w : World} {b : Nat} {x y z : Value} {t : TypeId} (h : w.heap[b]? = some (.cells #[x, y, z] t)) : w.cell? ⟨b, 0, none⟩ = some x ∧ w.cell? ⟨b, 1, none⟩ = some y ∧ w.cell? ⟨b, 2, none⟩ = some z ∧ w.frozen? ⟨b, 0, none⟩ = false ∧ w.frozen? ⟨b, 1, none⟩ = false ∧ w.frozen? ⟨b, 2, none⟩ = false := by
  simp [World.cell?, World.frozen?, h]

/-- the longer text's end -/
theorem suffix_any (p q : ByteArray) (hp : p.size + q.size ≤ 4000000) (w : World) :
    Calls Tryf.prog 8 #[.string (p ++ q), .string q] w fun e w' => e = .returned (.bool true) ∧ w' = w := by
  have hs : (p ++ q).size = p.size + q.size := ByteArray.size_append
  have hx : (p ++ q).extract p.size (p.size + q.size) = q := ByteArray.extract_append_eq_right rfl rfl
  obtain ⟨s, hse⟩ : ∃ s, p ++ q = s := ⟨_, rfl⟩
  rw [hse] at hs hx ⊢
  go_enter Tryf.func8, Tryf.ntmps8
  go_wp2_with fail
  go_ret
  exact ⟨by simp, rfl⟩

set_option maxHeartbeats 400000 in
theorem over_any {m l : ByteArray} {v : Nat} {x : Value} {w : World} (h : Sd w x m l v) :
    Calls Tryf.prog 10 #[x, .float .f64 v] w fun e w' => e = .returned (.bool true) ∧ Below w.heap.size w w' := by
  have HS : Hid (Sd w x m l v) := h
  obtain ⟨vs, rfl, b, rfl, _⟩ := h
  obtain ⟨w1, hw1⟩ : ∃ w1, w.alloc (.cells #[.string m, .string l, .slice (some ⟨b, 0, none⟩) 20159 20159] 36) = w1 := ⟨_, rfl⟩
  have hb1 : Below w.heap.size w w1 := by rw [← hw1]; exact (Below.refl _ _).alloc (Nat.le_refl _) _
  have HB1 := Hid.mk' hb1
  have b0 : w1.heap[w.heap.size]? = some (.cells #[.string m, .string l, .slice (some ⟨b, 0, none⟩) 20159 20159] 36) := by rw [← hw1]; exact heap_alloc_new _ _
  obtain ⟨k0, k1, k2, _, _, _⟩ := cells3 b0
  have HW1 := Hid.mk' hw1
  clear hb1 b0 hw1
  go_enter Tryf.func10, Tryf.ntmps10
  go_wp2_with fail
  rw [HW1.out]
  clear HW1
  refine (zlen_any (HS.out.keep HB1.out)).mono ?_
  rintro e w2 ⟨rfl, hb2⟩
  have HB2 := Hid.mk' hb2
  clear hb2
  go_wp2_with fail
  go_loopw [5] (fun i wr => ∃ k : Nat, k ≤ 20159 ∧ i = .int .i64 k ∧ Below w1.heap.size w1 wr) (fun i _ => 20159 - (intOf i).toNat)
  case atStart => exact ⟨0, Nat.zero_le _, rfl, HB2.out⟩
  case round =>
    obtain ⟨k, hk, rfl, hbel⟩ := hrel
    have HBr := Hid.mk' hbel
    have k0r := cell_step k0 hbel
    have k1r := cell_step k1 hbel
    have k2r := cell_step k2 hbel
    have HFin : Hid (Below w.heap.size w wr) := HB1.out.trans (hbel.mono HB1.out.size)
    have HSr := Hid.mk' (HS.out.keep HFin.out)
    clear hbel
    by_cases hlt : k < 20159
    · have HK : Hid (k < 20159) := hlt
      have hlt2 : (k : Int) < 20159 := by omega
      clear hlt hk
      go_wp2_with fail
      refine (zt_any HSr.out k HK.out).mono ?_
      rintro e w3 ⟨rfl, hb3⟩
      have k03 := cell_step k0r hb3
      have k13 := cell_step k1r hb3
      have k23 := cell_step k2r hb3
      have HB3 := Hid.mk' hb3
      clear hb3
      go_wp2_with fail
      refine (zv_any (HSr.out.keep HB3.out) k HK.out).mono ?_
      rintro e w4 ⟨rfl, hb4⟩
      have HB4 : Hid (Below wr.heap.size wr w4) := HB3.out.trans (hb4.mono HB3.out.size)
      clear hb4
      go_wp2_with fail
      refine (samefloat_any v _).mono ?_
      rintro e w4 ⟨rfl, rfl⟩
      go_wp2_with fail
      go_roundw
      case rel => exact ⟨k + 1, by have := HK.out; omega, by go_num, HBr.out.trans (HB4.out.mono HBr.out.size)⟩
      case measure => have := HK.out; simp [intOf]; omega
    · obtain rfl : k = 20159 := by omega
      go_wp2_with fail
      go_ret
      exact ⟨rfl, HFin.out⟩
end Go.Proofs.Qxb6628292aFmt
