import Derived.Test.Qxb6628292aFmtSame
namespace Go.Proofs.Qxb6628292aFmt
open Go.RowKit Go.Extern.Stop Go.Stop Go.Extern
attribute [local go_sem] run_store_float

theorem got_k {W : World} {bg n cg : Nat} {gs : List Sg} {ks : List (ByteArray × ByteArray × Nat)} (h : Ss W (.slice (some ⟨bg, 0, none⟩) n cg) gs) (hk : gs.map key = ks) (j : Nat) (m l : ByteArray) (v : Nat) (hx : ks[j]? = some (m, l, v)) :
    ∃ b, W.cell? ⟨bg, j * 3, none⟩ = some (.string m) ∧ W.cell? ⟨bg, j * 3 + 1, none⟩ = some (.string l) ∧ W.cell? ⟨bg, j * 3 + 2, none⟩ = some (.slice (some ⟨b, 0, none⟩) 20159 20159) ∧
      Sd W (.agg #[.string m, .string l, .slice (some ⟨b, 0, none⟩) 20159 20159]) m l v := by
  obtain ⟨b, cap, e, hc⟩ := h
  cases e
  rw [← hk, List.getElem?_map, Option.map_eq_some_iff] at hx
  obtain ⟨g, hg, hgk⟩ := hx
  obtain ⟨c0, c1, c2, hr⟩ := hc j g hg
  unfold key at hgk
  obtain ⟨rfl, h2⟩ := Prod.mk.inj hgk
  obtain ⟨rfl, rfl⟩ := Prod.mk.inj h2
  exact ⟨g.b, c0, c1, c2, _, rfl, hr.sm⟩

theorem S22.step {w1 W W' : World} {p0 p1 p2 p3 p4 p5 p6 p7 p8 p9 p10 p11 : Addr} {x0 x1 x2 x3 x4 x5 x6 x7 x8 x9 x10 x11 : Value} (h : Below w1.heap.size w1 W ∧ W.cell? p0 = some x0 ∧ W.cell? p1 = some x1 ∧ W.cell? p2 = some x2 ∧ W.cell? p3 = some x3 ∧ W.cell? p4 = some x4 ∧ W.cell? p5 = some x5 ∧ W.cell? p6 = some x6 ∧ W.cell? p7 = some x7 ∧ W.cell? p8 = some x8 ∧ W.cell? p9 = some x9 ∧ W.cell? p10 = some x10 ∧ W.cell? p11 = some x11) (hb : Below W.heap.size W W') :
    Below w1.heap.size w1 W' ∧ W'.cell? p0 = some x0 ∧ W'.cell? p1 = some x1 ∧ W'.cell? p2 = some x2 ∧ W'.cell? p3 = some x3 ∧ W'.cell? p4 = some x4 ∧ W'.cell? p5 = some x5 ∧ W'.cell? p6 = some x6 ∧ W'.cell? p7 = some x7 ∧ W'.cell? p8 = some x8 ∧ W'.cell? p9 = some x9 ∧ W'.cell? p10 = some x10 ∧ W'.cell? p11 = some x11 := by
  obtain ⟨h, h0, h1, h2, h3, h4, h5, h6, h7, h8, h9, h10, h11⟩ := h
  exact ⟨h.trans (hb.mono h.size), cell_step h0 hb, cell_step h1 hb, cell_step h2 hb, cell_step h3 hb, cell_step h4 hb, cell_step h5 hb, cell_step h6 hb, cell_step h7 hb, cell_step h8 hb, cell_step h9 hb, cell_step h10 hb, cell_step h11 hb⟩

/-- two series that are the same -/
def Two (w : World) (x y : Value) : Prop := ∃ m l v, Sd w x m l v ∧ Sd w y m l v
theorem Two.keep {w W : World} {x y : Value} (h : Two w x y) (hb : Below w.heap.size w W) : Two W x y := by
  obtain ⟨m, l, v, h1, h2⟩ := h
  exact ⟨m, l, v, h1.keep hb, h2.keep hb⟩
theorem sameser_two {x y : Value} {w : World} (h : Two w x y) : Calls Tryf.prog 12 #[x, y] w fun e w' => e = .returned (.bool true) ∧ Below w.heap.size w w' := by
  obtain ⟨m, l, v, h1, h2⟩ := h
  exact sameser_any h1 h2

def Lab (w : World) (x : Value) (l : ByteArray) : Prop := ∃ m v, Sd w x m l v
def Met (w : World) (x : Value) (m : ByteArray) : Prop := ∃ l v, Sd w x m l v
theorem Lab.keep {w W : World} {x : Value} {l : ByteArray} (h : Lab w x l) (hb : Below w.heap.size w W) : Lab W x l := by
  obtain ⟨m, v, h⟩ := h
  exact ⟨m, v, h.keep hb⟩
theorem Met.keep {w W : World} {x : Value} {m : ByteArray} (h : Met w x m) (hb : Below w.heap.size w W) : Met W x m := by
  obtain ⟨l, v, h⟩ := h
  exact ⟨l, v, h.keep hb⟩
theorem zlabels_lab {l : ByteArray} {x : Value} {w : World} (h : Lab w x l) : Calls Tryf.prog 7 #[x] w fun e w' => e = .returned (.string l) ∧ Below w.heap.size w w' := by
  obtain ⟨m, v, h⟩ := h
  exact zlabels_any h
theorem zmetric_met {m : ByteArray} {x : Value} {w : World} (h : Met w x m) : Calls Tryf.prog 9 #[x] w fun e w' => e = .returned (.string m) ∧ Below w.heap.size w w' := by
  obtain ⟨l, v, h⟩ := h
  exact zmetric_any h

theorem opt_zero (x : ByteArray × ByteArray × Nat) : opt 0 x = [] := by
  unfold opt
  rw [if_pos (by kernel_rfl)]

set_option maxRecDepth 20000 in
set_option maxHeartbeats 1000000 in
theorem append_law (F : Interp) (a b c : ByteArray) (f1 f2 f3 f4 : Nat) (w : World) (hF : F.told.answers w.tape) (ha : a.size ≤ maxLen) (hb : b.size ≤ maxLen) (hc : c.size ≤ maxLen) :
    Calls Tryf.prog 4 #[.string a, .string b, .string c, .float .f64 f1, .float .f64 f2, .float .f64 f3, .float .f64 f4] w fun e w' => e = .returned (.bool true) ∧ Below w.heap.size w w' := by
  have HF : Hid (F.told.answers w.tape) := hF
  have C5 : Hid (Calls Tryf.prog 11 #[.string a, .string b, .string c, .float .f64 f1, .float .f64 f2, .float .f64 f3, .float .f64 f4] w fun e w' => IsB e ∧ w' = w) := bytes11_any a b c f1 f2 f3 f4 w ha hb hc
  unfold maxLen at ha hb hc
  clear hF
  go_enter Tryf.func4, Tryf.ntmps4
  go_wp2_with fail
  refine C5.out.mono ?_
  rintro e w ⟨⟨r, rfl⟩, rfl⟩
  cases r with
  | false =>
    go_wp2_with fail
    go_ret
    exact ⟨rfl, Below.refl _ _⟩
  | true =>
    by_cases h1 : (65536 : Int) < a.size
    · go_wp2_with fail
      go_ret
      exact ⟨rfl, Below.refl _ _⟩
    by_cases h2 : (65536 : Int) < b.size
    · go_wp2_with fail
      go_ret
      exact ⟨rfl, Below.refl _ _⟩
    by_cases h3 : (65536 : Int) < c.size
    · go_wp2_with fail
      go_ret
      exact ⟨rfl, Below.refl _ _⟩
    have HL : Hid ((labB F.told a b c).size ≤ 2000000) := labB_size F a b c (by omega) (by omega) (by omega)
    obtain ⟨w1, hw1⟩ : ∃ w1, (w.alloc (.cells #[.string a, .string b, .string c, .float .f64 f1, .float .f64 f2, .float .f64 f3, .float .f64 f4] 25)).alloc (.cells #[.string a, .string b, .string c, .float .f64 f1, .float .f64 0, .float .f64 f3, .float .f64 0] 25) = w1 := ⟨_, rfl⟩
    have hb1 : Below w.heap.size w w1 := by rw [← hw1]; exact ((Below.refl _ _).alloc (Nat.le_refl _) _).alloc (by simp) _
    have e0 : w1.heap[w.heap.size]? = some (.cells #[.string a, .string b, .string c, .float .f64 f1, .float .f64 f2, .float .f64 f3, .float .f64 f4] 25) := by
      rw [← hw1]; exact (Below.heap_alloc _ _ _ (by simp)).trans (heap_alloc_new _ _)
    have e1 : w1.heap[w.heap.size + 1]? = some (.cells #[.string a, .string b, .string c, .float .f64 f1, .float .f64 0, .float .f64 f3, .float .f64 0] 25) := by
      rw [← hw1]
      have h := heap_alloc_new (w.alloc (.cells #[.string a, .string b, .string c, .float .f64 f1, .float .f64 f2, .float .f64 f3, .float .f64 f4] 25)) (.cells #[.string a, .string b, .string c, .float .f64 f1, .float .f64 0, .float .f64 f3, .float .f64 0] 25)
      simpa using h
    have a0 : w1.cell? ⟨w.heap.size, 0, none⟩ = some (.string a) := by simp [World.cell?, e0]
    have a1 : w1.cell? ⟨w.heap.size, 1, none⟩ = some (.string b) := by simp [World.cell?, e0]
    have a2 : w1.cell? ⟨w.heap.size, 2, none⟩ = some (.string c) := by simp [World.cell?, e0]
    have a3 : w1.cell? ⟨w.heap.size, 3, none⟩ = some (.float .f64 f1) := by simp [World.cell?, e0]
    have a4 : w1.cell? ⟨w.heap.size, 4, none⟩ = some (.float .f64 f2) := by simp [World.cell?, e0]
    have a5 : w1.cell? ⟨w.heap.size, 5, none⟩ = some (.float .f64 f3) := by simp [World.cell?, e0]
    have a6 : w1.cell? ⟨w.heap.size, 6, none⟩ = some (.float .f64 f4) := by simp [World.cell?, e0]
    have b0 : w1.cell? ⟨w.heap.size + 1, 0, none⟩ = some (.string a) := by simp [World.cell?, e1]
    have b1 : w1.cell? ⟨w.heap.size + 1, 1, none⟩ = some (.string b) := by simp [World.cell?, e1]
    have b2 : w1.cell? ⟨w.heap.size + 1, 2, none⟩ = some (.string c) := by simp [World.cell?, e1]
    have b3 : w1.cell? ⟨w.heap.size + 1, 3, none⟩ = some (.float .f64 f1) := by simp [World.cell?, e1]
    have b4 : w1.cell? ⟨w.heap.size + 1, 4, none⟩ = some (.float .f64 0) := by simp [World.cell?, e1]
    have b5 : w1.cell? ⟨w.heap.size + 1, 5, none⟩ = some (.float .f64 f3) := by simp [World.cell?, e1]
    have b6 : w1.cell? ⟨w.heap.size + 1, 6, none⟩ = some (.float .f64 0) := by simp [World.cell?, e1]
    have HB1 := Hid.mk' hb1
    have HW1 := Hid.mk' hw1
    clear hb1 hw1 e0 e1
    go_upto_region 7 with fail
    rw [HW1.out]
    clear HW1
    go_wp2_with fail
    refine (zseries_any F.told a b c f1 f2 f3 f4 w1 (by rw [HB1.out.tape]; exact HF.out) HL.out).mono ?_
    rintro e w2 ⟨v17, gs, rfl, hss, hkey, hb2⟩
    have HSs := Hid.mk' hss
    have HKey := Hid.mk' hkey
    have HB2 : Hid (Below w.heap.size w w2) := HB1.out.trans (hb2.mono HB1.out.size)
    have g0 := cell_step b0 hb2
    have g1 := cell_step b1 hb2
    have g2 := cell_step b2 hb2
    have g3 := cell_step b3 hb2
    have g4 := cell_step b4 hb2
    have g5 := cell_step b5 hb2
    have g6 := cell_step b6 hb2
    obtain ⟨bf, cf, hv, hcells⟩ := hss
    subst hv
    clear hkey hb2 hcells a0 a1 a2 a3 a4 a5 a6 b0 b1 b2 b3 b4 b5 b6
    go_wp2_with fail
    refine (zseries_any F.told a b c f1 0 f3 0 w2 (by rw [HB2.out.tape]; exact HF.out) HL.out).mono ?_
    rintro e w3 ⟨v19, gb, rfl, hsb, hkeyb, hb3⟩
    have HSf := Hid.mk' (HSs.out.keep hb3)
    have HSb := Hid.mk' hsb
    have HKb := Hid.mk' hkeyb
    have HB3 : Hid (Below w.heap.size w w3) := HB2.out.trans (hb3.mono HB2.out.size)
    obtain ⟨bb, cb, hv, hcells⟩ := hsb
    subst hv
    clear hkeyb hb3 hcells g0 g1 g2 g3 g4 g5 g6 HSs
    obtain ⟨cpu, hcpu⟩ : ∃ x, labB F.told a b c ++ cpuS = x := ⟨_, rfl⟩
    obtain ⟨mem, hmem⟩ : ∃ x, labB F.told a b c ++ memS = x := ⟨_, rfl⟩
    rw [hcpu, hmem] at HKey HKb
    clear hcpu hmem HL
    have HKB : Hid (gb.map key = [(reqB, cpu, f1), (reqB, mem, f3)]) := by
      show _ = _
      rw [HKb.out]
      unfold serK
      rw [opt_zero, opt_zero]
      rfl
    have hgb : gb.length = 2 := by have := congrArg List.length HKB.out; simpa using this
    rw [hgb] at HSb ⊢
    have hgl : gs.length = (serK cpu mem f1 f2 f3 f4).length := by have := congrArg List.length HKey.out; simpa using this
    obtain ⟨N, hN⟩ : ∃ N, (serK cpu mem f1 f2 f3 f4).length = N := ⟨_, rfl⟩
    obtain ⟨K, hK⟩ : ∃ K, ([(reqB, cpu, f1), (reqB, mem, f3)] ++ opt f2 (limB, cpu, f2)).length = K := ⟨_, rfl⟩
    have hNK : N = K + (opt f4 (limB, mem, f4)).length := by rw [← hN, ← hK]; unfold serK; rw [List.length_append]
    have hK2 : K = 2 + (opt f2 (limB, cpu, f2)).length := by rw [← hK, List.length_append]; rfl
    have HKx : Hid (([(reqB, cpu, f1), (reqB, mem, f3)] ++ opt f2 (limB, cpu, f2)).length = K) := hK
    have HNK := Hid.mk' hNK
    have HK2 := Hid.mk' hK2
    have HO2 : Hid ((opt f2 (limB, cpu, f2)).length ≤ 1) := by show _ ≤ _; unfold opt; split <;> simp
    have HO4 : Hid ((opt f4 (limB, mem, f4)).length ≤ 1) := by show _ ≤ _; unfold opt; split <;> simp
    rw [hgl, hN] at HSf ⊢
    have hKb : 2 ≤ K ∧ K ≤ 3 ∧ N ≤ 4 ∧ K ≤ N := by have := HO2.out; have := HO4.out; omega
    have HKbd := Hid.mk' hKb
    clear hgb hgl hN hK hNK hK2 hKb HKb
    go_upto_if 74 with fail
    obtain ⟨z, hz⟩ : ∃ z : Bool, (FloatKind.f64.format.order f2 0 != some .eq) = z := ⟨_, rfl⟩
    have HZ2 := Hid.mk' hz
    rw [hz]
    go_cut [21] from 75 to 76 (fun s21 wx => s21 = .int .i64 K ∧ wx = w3)
    case first =>
      cases z with
      | false =>
        have HZ : Hid (opt f2 (limB, cpu, f2) = []) := by show _ = _; unfold opt; simp at hz; simp [hz]
        clear hz
        go_wp2_with fail
        go_meet
        case rel => exact ⟨by rw [HK2.out, HZ.out]; rfl, rfl⟩
      | true =>
        have HZ : Hid (opt f2 (limB, cpu, f2) = [(limB, cpu, f2)]) := by show _ = _; unfold opt; simp at hz; simp [hz]
        clear hz
        go_wp2_with fail
        go_meet
        case rel => exact ⟨by rw [HK2.out, HZ.out]; rfl, rfl⟩
    case rest =>
      obtain ⟨hs21, hwc⟩ := hcut
      subst hs21 hwc
      clear hz
      have hK3 : (K : Int) ≤ 3 := by have := HKbd.out; omega
      have hK4 : (2 : Int) ≤ (K : Int) := by have := HKbd.out; omega
      go_upto_if 78 with fail
      obtain ⟨y, hy⟩ : ∃ z : Bool, (FloatKind.f64.format.order f4 0 != some .eq) = z := ⟨_, rfl⟩
      have HY4 := Hid.mk' hy
      rw [hy]
      go_cut [21] from 79 to 80 (fun s21 wx => s21 = .int .i64 N ∧ wx = wc)
      case first =>
        cases y with
        | false =>
          have HZ : Hid (opt f4 (limB, mem, f4) = []) := by show _ = _; unfold opt; simp at hy; simp [hy]
          clear hy
          go_wp2_with fail
          go_meet
          case rel => exact ⟨by rw [HNK.out, HZ.out]; rfl, rfl⟩
        | true =>
          have HZ : Hid (opt f4 (limB, mem, f4) = [(limB, mem, f4)]) := by show _ = _; unfold opt; simp at hy; simp [hy]
          clear hy
          go_wp2_with fail
          go_meet
          case rel => exact ⟨by rw [HNK.out, HZ.out]; go_num, rfl⟩
      case rest =>
        obtain ⟨hs21, hwc⟩ := hcut
        subst hs21 hwc
        clear hy
        have hN4 : (N : Int) ≤ 4 := by have := HKbd.out; omega
        have hN2 : (2 : Int) ≤ (N : Int) := by have := HKbd.out; omega
        obtain ⟨y0, a0, a1, a2, sy0⟩ := got_k HSb.out HKB.out 0 reqB cpu f1 rfl
        obtain ⟨y1, b0, b1, b2, sy1⟩ := got_k HSb.out HKB.out 1 reqB mem f3 rfl
        obtain ⟨t0, c0, c1, c2, st0⟩ := got_k HSf.out HKey.out 0 reqB cpu f1 rfl
        obtain ⟨t1, d0, d1, d2, st1⟩ := got_k HSf.out HKey.out 1 reqB mem f3 rfl
        have x0 : wc.cell? ⟨bb, 0, none⟩ = some (.string reqB) := a0
        have x1 : wc.cell? ⟨bb, 1, none⟩ = some (.string cpu) := a1
        have x2 : wc.cell? ⟨bb, 2, none⟩ = some (.slice (some ⟨y0, 0, none⟩) 20159 20159) := a2
        have x3 : wc.cell? ⟨bb, 3, none⟩ = some (.string reqB) := b0
        have x4 : wc.cell? ⟨bb, 4, none⟩ = some (.string mem) := b1
        have x5 : wc.cell? ⟨bb, 5, none⟩ = some (.slice (some ⟨y1, 0, none⟩) 20159 20159) := b2
        have x6 : wc.cell? ⟨bf, 0, none⟩ = some (.string reqB) := c0
        have x7 : wc.cell? ⟨bf, 1, none⟩ = some (.string cpu) := c1
        have x8 : wc.cell? ⟨bf, 2, none⟩ = some (.slice (some ⟨t0, 0, none⟩) 20159 20159) := c2
        have x9 : wc.cell? ⟨bf, 3, none⟩ = some (.string reqB) := d0
        have x10 : wc.cell? ⟨bf, 4, none⟩ = some (.string mem) := d1
        have x11 : wc.cell? ⟨bf, 5, none⟩ = some (.slice (some ⟨t1, 0, none⟩) 20159 20159) := d2
        have HY0 := Hid.mk' sy0
        have HY1 := Hid.mk' sy1
        clear a0 a1 a2 b0 b1 b2 c0 c1 c2 d0 d1 d2
        have hN5 : (0 : Int) < (N : Int) := by omega
        have hN6 : (1 : Int) < (N : Int) := by omega
        have hN7 : 0 < N := by omega
        have hN8 : 1 < N := by omega
        have tw0 : Two wc _ _ := ⟨reqB, cpu, f1, sy0, st0⟩
        have tw1 : Two wc _ _ := ⟨reqB, mem, f3, sy1, st1⟩
        clear sy0 sy1 st0 st1
        go_wp2_with fail
        refine (over_any HY0.out).mono ?_
        rintro e w4 ⟨rfl, hb4⟩
        have HB4 := Hid.mk' hb4
        have z3 := cell_step x3 hb4
        have z4 := cell_step x4 hb4
        have z5 := cell_step x5 hb4
        clear hb4
        go_wp2_with fail
        refine (over_any (HY1.out.keep HB4.out)).mono ?_
        rintro e w5 ⟨rfl, hb5⟩
        have HB5 : Hid (Below wc.heap.size wc w5) := HB4.out.trans (hb5.mono HB4.out.size)
        clear hb5 z3 z4 z5 HB4
        have hs5 : Below wc.heap.size wc w5 ∧ w5.cell? ⟨bb, 0, none⟩ = some (.string reqB) ∧ w5.cell? ⟨bb, 1, none⟩ = some (.string cpu) ∧ w5.cell? ⟨bb, 2, none⟩ = some (.slice (some ⟨y0, 0, none⟩) 20159 20159) ∧ w5.cell? ⟨bb, 3, none⟩ = some (.string reqB) ∧ w5.cell? ⟨bb, 4, none⟩ = some (.string mem) ∧ w5.cell? ⟨bb, 5, none⟩ = some (.slice (some ⟨y1, 0, none⟩) 20159 20159) ∧ w5.cell? ⟨bf, 0, none⟩ = some (.string reqB) ∧ w5.cell? ⟨bf, 1, none⟩ = some (.string cpu) ∧ w5.cell? ⟨bf, 2, none⟩ = some (.slice (some ⟨t0, 0, none⟩) 20159 20159) ∧ w5.cell? ⟨bf, 3, none⟩ = some (.string reqB) ∧ w5.cell? ⟨bf, 4, none⟩ = some (.string mem) ∧ w5.cell? ⟨bf, 5, none⟩ = some (.slice (some ⟨t1, 0, none⟩) 20159 20159) := S22.step ⟨Below.refl _ _, x0, x1, x2, x3, x4, x5, x6, x7, x8, x9, x10, x11⟩ HB5.out
        go_wp2_with fail
        go_region_held3 (fun W => Below wc.heap.size wc W ∧ W.cell? ⟨bb, 0, none⟩ = some (.string reqB) ∧ W.cell? ⟨bb, 1, none⟩ = some (.string cpu) ∧ W.cell? ⟨bb, 2, none⟩ = some (.slice (some ⟨y0, 0, none⟩) 20159 20159) ∧ W.cell? ⟨bb, 3, none⟩ = some (.string reqB) ∧ W.cell? ⟨bb, 4, none⟩ = some (.string mem) ∧ W.cell? ⟨bb, 5, none⟩ = some (.slice (some ⟨y1, 0, none⟩) 20159 20159) ∧ W.cell? ⟨bf, 0, none⟩ = some (.string reqB) ∧ W.cell? ⟨bf, 1, none⟩ = some (.string cpu) ∧ W.cell? ⟨bf, 2, none⟩ = some (.slice (some ⟨t0, 0, none⟩) 20159 20159) ∧ W.cell? ⟨bf, 3, none⟩ = some (.string reqB) ∧ W.cell? ⟨bf, 4, none⟩ = some (.string mem) ∧ W.cell? ⟨bf, 5, none⟩ = some (.slice (some ⟨t1, 0, none⟩) 20159 20159)) (first | exact ⟨hs5.1.drew, hs5.2⟩ | assumption | exact S22.step (by assumption) (by assumption)) (first
          | (go_at_call 12; refine (sameser_two (Two.keep (by assumption) (And.left (by assumption)))).mono ?_; rintro e w6 ⟨rfl, hb6⟩))
        have hs6 : Below wc.heap.size wc w6 ∧ w6.cell? ⟨bb, 0, none⟩ = some (.string reqB) ∧ w6.cell? ⟨bb, 1, none⟩ = some (.string cpu) ∧ w6.cell? ⟨bb, 2, none⟩ = some (.slice (some ⟨y0, 0, none⟩) 20159 20159) ∧ w6.cell? ⟨bb, 3, none⟩ = some (.string reqB) ∧ w6.cell? ⟨bb, 4, none⟩ = some (.string mem) ∧ w6.cell? ⟨bb, 5, none⟩ = some (.slice (some ⟨y1, 0, none⟩) 20159 20159) ∧ w6.cell? ⟨bf, 0, none⟩ = some (.string reqB) ∧ w6.cell? ⟨bf, 1, none⟩ = some (.string cpu) ∧ w6.cell? ⟨bf, 2, none⟩ = some (.slice (some ⟨t0, 0, none⟩) 20159 20159) ∧ w6.cell? ⟨bf, 3, none⟩ = some (.string reqB) ∧ w6.cell? ⟨bf, 4, none⟩ = some (.string mem) ∧ w6.cell? ⟨bf, 5, none⟩ = some (.slice (some ⟨t1, 0, none⟩) 20159 20159) := by assumption
        have HB6 := Hid.mk' hs6.1
        have HTw0 := Hid.mk' tw0
        have HTw1 := Hid.mk' tw1
        clear hb6 hs5 hs6 tw0 tw1
        go_upto_if 123 with fail
        rw [HZ2.out]
        go_cut [22] from 124 to 150 (fun s22 wx => s22 = .int .i64 K ∧ Below wc.heap.size wc wx)
        case first =>
          have hz := HZ2.out
          clear HZ2
          cases z with
          | false =>
            have HZ : Hid (opt f2 (limB, cpu, f2) = []) := by show _ = _; unfold opt; simp at hz; simp [hz]
            clear hz
            go_wp2_with fail
            go_meet
            case rel => exact ⟨by rw [HK2.out, HZ.out]; rfl, HB6.out⟩
          | true =>
            have HZ : Hid (opt f2 (limB, cpu, f2) = [(limB, cpu, f2)]) := by show _ = _; unfold opt; simp at hz; simp [hz]
            have hx2 : (serK cpu mem f1 f2 f3 f4)[2]? = some (limB, cpu, f2) := by unfold serK; rw [HZ.out]; rfl
            have hK9 : K = 3 := by rw [HK2.out, HZ.out]; rfl
            have hN9 : (2 : Int) < (N : Int) := by have := HKbd.out; omega
            have hN10 : 2 < N := by omega
            have HK9 := Hid.mk' hK9
            obtain ⟨t2, d0, d1, d2, sF⟩ := got_k (HSf.out.keep HB6.out) HKey.out 2 ⟨#[107, 117, 98, 101, 95, 112, 111, 100, 95, 99, 111, 110, 116, 97, 105, 110, 101, 114, 95, 114, 101, 115, 111, 117, 114, 99, 101, 95, 108, 105, 109, 105, 116, 115]⟩ cpu f2 hx2
            have v0 : w6.cell? ⟨bf, 6, none⟩ = some (.string ⟨#[107, 117, 98, 101, 95, 112, 111, 100, 95, 99, 111, 110, 116, 97, 105, 110, 101, 114, 95, 114, 101, 115, 111, 117, 114, 99, 101, 95, 108, 105, 109, 105, 116, 115]⟩) := d0
            have v1 : w6.cell? ⟨bf, 7, none⟩ = some (.string cpu) := d1
            have v2 : w6.cell? ⟨bf, 8, none⟩ = some (.slice (some ⟨t2, 0, none⟩) 20159 20159) := d2
            have v3 := cell_step x0 HB6.out
            have v4 := cell_step x1 HB6.out
            have v5 := cell_step x2 HB6.out
            have lb1 : Lab w6 _ cpu := ⟨_, _, sF⟩
            have lb2 : Lab w6 _ cpu := ⟨_, _, HY0.out.keep HB6.out⟩
            have mt1 : Met w6 _ ⟨#[107, 117, 98, 101, 95, 112, 111, 100, 95, 99, 111, 110, 116, 97, 105, 110, 101, 114, 95, 114, 101, 115, 111, 117, 114, 99, 101, 95, 108, 105, 109, 105, 116, 115]⟩ := ⟨_, _, sF⟩
            have HSF := Hid.mk' sF
            clear hz hx2 hK9 d0 d1 d2 sF
            go_wp2_with fail
            go_region_held3 (fun W => Below w6.heap.size w6 W ∧ W.cell? ⟨bf, 6, none⟩ = some (.string ⟨#[107, 117, 98, 101, 95, 112, 111, 100, 95, 99, 111, 110, 116, 97, 105, 110, 101, 114, 95, 114, 101, 115, 111, 117, 114, 99, 101, 95, 108, 105, 109, 105, 116, 115]⟩) ∧ W.cell? ⟨bf, 7, none⟩ = some (.string cpu) ∧ W.cell? ⟨bf, 8, none⟩ = some (.slice (some ⟨t2, 0, none⟩) 20159 20159) ∧ W.cell? ⟨bb, 0, none⟩ = some (.string reqB) ∧ W.cell? ⟨bb, 1, none⟩ = some (.string cpu) ∧ W.cell? ⟨bb, 2, none⟩ = some (.slice (some ⟨y0, 0, none⟩) 20159 20159)) (first | exact ⟨(Below.refl _ _).drew, v0, v1, v2, v3, v4, v5⟩ | assumption | exact S12.step (by assumption) (by assumption)) (first
              | (go_at_call 9; refine (zmetric_met (m := ⟨#[107, 117, 98, 101, 95, 112, 111, 100, 95, 99, 111, 110, 116, 97, 105, 110, 101, 114, 95, 114, 101, 115, 111, 117, 114, 99, 101, 95, 108, 105, 109, 105, 116, 115]⟩) (Met.keep (by assumption) (And.left (by assumption)))).mono ?_; rintro e w7 ⟨rfl, hb7⟩)
              | (go_at_call 7; refine (zlabels_lab (l := cpu) (Lab.keep (by assumption) (And.left (by assumption)))).mono ?_; rintro e w8 ⟨rfl, hb8⟩))
            all_goals go_wp2_with fail
            have hs8 : Below w6.heap.size w6 w8 ∧ w8.cell? ⟨bf, 6, none⟩ = some (.string ⟨#[107, 117, 98, 101, 95, 112, 111, 100, 95, 99, 111, 110, 116, 97, 105, 110, 101, 114, 95, 114, 101, 115, 111, 117, 114, 99, 101, 95, 108, 105, 109, 105, 116, 115]⟩) ∧ w8.cell? ⟨bf, 7, none⟩ = some (.string cpu) ∧ w8.cell? ⟨bf, 8, none⟩ = some (.slice (some ⟨t2, 0, none⟩) 20159 20159) ∧ w8.cell? ⟨bb, 0, none⟩ = some (.string reqB) ∧ w8.cell? ⟨bb, 1, none⟩ = some (.string cpu) ∧ w8.cell? ⟨bb, 2, none⟩ = some (.slice (some ⟨y0, 0, none⟩) 20159 20159) := by assumption
            have HB8 : Hid (Below w6.heap.size w6 w8) := hs8.1
            clear hs8 hb8 hb7
            refine (over_any (HSF.out.keep HB8.out)).mono ?_
            rintro e w9 ⟨rfl, hb9⟩
            have HB9 : Hid (Below wc.heap.size wc w9) := HB6.out.trans ((HB8.out.trans (hb9.mono HB8.out.size)).mono HB6.out.size)
            clear hb9
            go_wp2_with fail
            go_meet
            case rel => exact ⟨by rw [HK9.out]; rfl, HB9.out⟩
        case rest =>
          obtain ⟨hs22, hbd⟩ := hcut
          subst hs22
          have HBd := Hid.mk' hbd
          have HFin : Hid (Below w.heap.size w _) := HB3.out.trans (hbd.mono HB3.out.size)
          have v3 := cell_step x3 hbd
          have v4 := cell_step x4 hbd
          have v5 := cell_step x5 hbd
          clear hbd
          have hy := HY4.out
          clear HY4
          cases y with
          | false =>
            go_wp2_with fail
            go_ret
            exact ⟨rfl, HFin.out⟩
          | true =>
            have HZ : Hid (opt f4 (limB, mem, f4) = [(limB, mem, f4)]) := by show _ = _; unfold opt; simp at hy; simp [hy]
            have hxK : (serK cpu mem f1 f2 f3 f4)[K]? = some (limB, mem, f4) := by
              unfold serK
              rw [List.getElem?_append_right (by rw [HKx.out]; exact Nat.le_refl _), HKx.out, Nat.sub_self, HZ.out]
              rfl
            have hNK : N = K + 1 := by rw [HNK.out, HZ.out]; rfl
            have hKN : (K : Int) < (N : Int) := by omega
            have hKN2 : K < N := by omega
            obtain ⟨t3, v0, v1, v2, sF⟩ := got_k (HSf.out.keep HBd.out) HKey.out K ⟨#[107, 117, 98, 101, 95, 112, 111, 100, 95, 99, 111, 110, 116, 97, 105, 110, 101, 114, 95, 114, 101, 115, 111, 117, 114, 99, 101, 95, 108, 105, 109, 105, 116, 115]⟩ mem f4 hxK
            have lb1 : Lab wc _ mem := ⟨_, _, sF⟩
            have lb2 : Lab wc _ mem := ⟨_, _, HY1.out.keep HBd.out⟩
            have mt1 : Met wc _ ⟨#[107, 117, 98, 101, 95, 112, 111, 100, 95, 99, 111, 110, 116, 97, 105, 110, 101, 114, 95, 114, 101, 115, 111, 117, 114, 99, 101, 95, 108, 105, 109, 105, 116, 115]⟩ := ⟨_, _, sF⟩
            have HSF := Hid.mk' sF
            clear hxK hNK sF
            go_wp2_with fail
            go_region_held3 (fun W => Below wc.heap.size wc W ∧ W.cell? ⟨bf, K * 3, none⟩ = some (.string ⟨#[107, 117, 98, 101, 95, 112, 111, 100, 95, 99, 111, 110, 116, 97, 105, 110, 101, 114, 95, 114, 101, 115, 111, 117, 114, 99, 101, 95, 108, 105, 109, 105, 116, 115]⟩) ∧ W.cell? ⟨bf, K * 3 + 1, none⟩ = some (.string mem) ∧ W.cell? ⟨bf, K * 3 + 2, none⟩ = some (.slice (some ⟨t3, 0, none⟩) 20159 20159) ∧ W.cell? ⟨bb, 3, none⟩ = some (.string reqB) ∧ W.cell? ⟨bb, 4, none⟩ = some (.string mem) ∧ W.cell? ⟨bb, 5, none⟩ = some (.slice (some ⟨y1, 0, none⟩) 20159 20159)) (first | exact ⟨(Below.refl _ _).drew, v0, v1, v2, v3, v4, v5⟩ | assumption | exact S12.step (by assumption) (by assumption)) (first
              | (go_at_call 9; refine (zmetric_met (m := ⟨#[107, 117, 98, 101, 95, 112, 111, 100, 95, 99, 111, 110, 116, 97, 105, 110, 101, 114, 95, 114, 101, 115, 111, 117, 114, 99, 101, 95, 108, 105, 109, 105, 116, 115]⟩) (Met.keep (by assumption) (And.left (by assumption)))).mono ?_; rintro e w7 ⟨rfl, hb7⟩)
              | (go_at_call 7; refine (zlabels_lab (l := mem) (Lab.keep (by assumption) (And.left (by assumption)))).mono ?_; rintro e w8 ⟨rfl, hb8⟩))
            all_goals go_wp2_with fail
            have hs8 : Below wc.heap.size wc w8 ∧ w8.cell? ⟨bf, K * 3, none⟩ = some (.string ⟨#[107, 117, 98, 101, 95, 112, 111, 100, 95, 99, 111, 110, 116, 97, 105, 110, 101, 114, 95, 114, 101, 115, 111, 117, 114, 99, 101, 95, 108, 105, 109, 105, 116, 115]⟩) ∧ w8.cell? ⟨bf, K * 3 + 1, none⟩ = some (.string mem) ∧ w8.cell? ⟨bf, K * 3 + 2, none⟩ = some (.slice (some ⟨t3, 0, none⟩) 20159 20159) ∧ w8.cell? ⟨bb, 3, none⟩ = some (.string reqB) ∧ w8.cell? ⟨bb, 4, none⟩ = some (.string mem) ∧ w8.cell? ⟨bb, 5, none⟩ = some (.slice (some ⟨y1, 0, none⟩) 20159 20159) := by assumption
            have HB8 : Hid (Below wc.heap.size wc w8) := hs8.1
            clear hs8 hb8 hb7
            refine (over_any (HSF.out.keep HB8.out)).mono ?_
            rintro e w9 ⟨rfl, hb9⟩
            have HB9 : Hid (Below w.heap.size w w9) := HFin.out.trans ((HB8.out.trans (hb9.mono HB8.out.size)).mono HFin.out.size)
            clear hb9
            go_wp2_with fail
            go_ret
            exact ⟨rfl, HB9.out⟩
end Go.Proofs.Qxb6628292aFmt
