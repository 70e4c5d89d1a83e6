import Derived.Test.Qxb6628292aFmtSame
namespace Go.Proofs.Qxb6628292aFmt
open Go.RowKit Go.Extern.Stop Go.Stop Go.Extern
attribute [local go_sem] run_store_float

/-- the three arrays of the law hold the series that are expected: metric, suffix, value -/
def AList (w2 W : World) (xs : List (ByteArray × ByteArray × Nat)) : Prop :=
  ∃ fm fs fv : Nat → Value, W.rowIs w2.heap.size 31 4 fm ∧ W.rowIs (w2.heap.size + 1) 31 4 fs ∧ W.rowIs (w2.heap.size + 1 + 1) 32 4 fv ∧
    (∀ j x, xs[j]? = some x → fm j = .string x.1 ∧ fs j = .string x.2.1 ∧ fv j = .float .f64 x.2.2) ∧ Below w2.heap.size w2 W

theorem AList.facts {w2 W : World} {xs : List (ByteArray × ByteArray × Nat)} (h : AList w2 W xs) (n : Nat) (hn : n < 4) (x1 x2 : Value) :
    ∃ u1 u2 u3, W.cell? ⟨w2.heap.size, n, none⟩ = some u1 ∧ W.frozen? ⟨w2.heap.size, n, none⟩ = false ∧
      (W.setCell ⟨w2.heap.size, n, none⟩ x1).cell? ⟨w2.heap.size + 1, n, none⟩ = some u2 ∧ (W.setCell ⟨w2.heap.size, n, none⟩ x1).frozen? ⟨w2.heap.size + 1, n, none⟩ = false ∧
      ((W.setCell ⟨w2.heap.size, n, none⟩ x1).setCell ⟨w2.heap.size + 1, n, none⟩ x2).cell? ⟨w2.heap.size + 1 + 1, n, none⟩ = some u3 ∧
      ((W.setCell ⟨w2.heap.size, n, none⟩ x1).setCell ⟨w2.heap.size + 1, n, none⟩ x2).frozen? ⟨w2.heap.size + 1 + 1, n, none⟩ = false := by
  obtain ⟨fm, fs, fv, h1, h2, h3, _, _⟩ := h
  have g2 := h2.setOther (a := ⟨w2.heap.size, n, none⟩) (by simp) x1
  have g3 := (h3.setOther (a := ⟨w2.heap.size, n, none⟩) (by simp; omega) x1).setOther (a := ⟨w2.heap.size + 1, n, none⟩) (by simp) x2
  exact ⟨_, _, _, h1.cell hn, h1.frozen n, g2.cell hn, g2.frozen n, g3.cell hn, g3.frozen n⟩

theorem AList.push {w2 W : World} {xs : List (ByteArray × ByteArray × Nat)} (h : AList w2 W xs) (n : Nat) (hn : xs.length = n) (m s : ByteArray) (v : Nat) :
    ∃ W', ((W.setCell ⟨w2.heap.size, n, none⟩ (.string m)).setCell ⟨w2.heap.size + 1, n, none⟩ (.string s)).setCell ⟨w2.heap.size + 1 + 1, n, none⟩ (.float .f64 v) = W' ∧ AList w2 W' (xs ++ [(m, s, v)]) := by
  obtain ⟨fm, fs, fv, h1, h2, h3, h4, h5⟩ := h
  have g1 := ((h1.set n (.string m)).setOther (a := ⟨w2.heap.size + 1, n, none⟩) (by simp) (.string s)).setOther (a := ⟨w2.heap.size + 1 + 1, n, none⟩) (by simp; omega) (.float .f64 v)
  have g2 := ((h2.setOther (a := ⟨w2.heap.size, n, none⟩) (by simp) (.string m)).set n (.string s)).setOther (a := ⟨w2.heap.size + 1 + 1, n, none⟩) (by simp) (.float .f64 v)
  have g3 := ((h3.setOther (a := ⟨w2.heap.size, n, none⟩) (by simp; omega) (.string m)).setOther (a := ⟨w2.heap.size + 1, n, none⟩) (by simp) (.string s)).set n (.float .f64 v)
  refine ⟨_, rfl, _, _, _, g1, g2, g3, fun j x hj => ?_, ((h5.setCell (by simp) _).setCell (by simp) _).setCell (by simp; omega) _⟩
  by_cases e : j = n
  · subst e
    rw [List.getElem?_append_right (by omega), hn, Nat.sub_self] at hj
    simp at hj
    subst hj
    simp
  · have hl : j < xs.length := by
      have h6 := (List.getElem?_eq_some_iff.1 hj).1
      simp at h6
      omega
    rw [List.getElem?_append_left hl] at hj
    simpa [e] using h4 j x hj

theorem AList.start (w2 : World) :
    AList w2 (((w2.alloc (.cells #[.string ⟨#[]⟩, .string ⟨#[]⟩, .string ⟨#[]⟩, .string ⟨#[]⟩] 31)).alloc (.cells #[.string ⟨#[]⟩, .string ⟨#[]⟩, .string ⟨#[]⟩, .string ⟨#[]⟩] 31)).alloc (.cells #[.float .f64 0, .float .f64 0, .float .f64 0, .float .f64 0] 32)) [] := by
  have h1 := World.rowIs_alloc w2 #[.string ⟨#[]⟩, .string ⟨#[]⟩, .string ⟨#[]⟩, .string ⟨#[]⟩] 31 (fun _ => .string ⟨#[]⟩) (fun i hi => by
    have : i = 0 ∨ i = 1 ∨ i = 2 ∨ i = 3 := by simp at hi; omega
    rcases this with rfl | rfl | rfl | rfl <;> rfl)
  have h2 := World.rowIs_alloc (w2.alloc (.cells #[.string ⟨#[]⟩, .string ⟨#[]⟩, .string ⟨#[]⟩, .string ⟨#[]⟩] 31)) #[.string ⟨#[]⟩, .string ⟨#[]⟩, .string ⟨#[]⟩, .string ⟨#[]⟩] 31 (fun _ => .string ⟨#[]⟩) (fun i hi => by
    have : i = 0 ∨ i = 1 ∨ i = 2 ∨ i = 3 := by simp at hi; omega
    rcases this with rfl | rfl | rfl | rfl <;> rfl)
  have h3 := World.rowIs_alloc ((w2.alloc (.cells #[.string ⟨#[]⟩, .string ⟨#[]⟩, .string ⟨#[]⟩, .string ⟨#[]⟩] 31)).alloc (.cells #[.string ⟨#[]⟩, .string ⟨#[]⟩, .string ⟨#[]⟩, .string ⟨#[]⟩] 31)) #[.float .f64 0, .float .f64 0, .float .f64 0, .float .f64 0] 32 (fun _ => .float .f64 0) (fun i hi => by
    have : i = 0 ∨ i = 1 ∨ i = 2 ∨ i = 3 := by simp at hi; omega
    rcases this with rfl | rfl | rfl | rfl <;> rfl)
  have z1 : (w2.alloc (.cells #[.string ⟨#[]⟩, .string ⟨#[]⟩, .string ⟨#[]⟩, .string ⟨#[]⟩] 31)).heap.size = w2.heap.size + 1 := by simp
  have z2 : ((w2.alloc (.cells #[.string ⟨#[]⟩, .string ⟨#[]⟩, .string ⟨#[]⟩, .string ⟨#[]⟩] 31)).alloc (.cells #[.string ⟨#[]⟩, .string ⟨#[]⟩, .string ⟨#[]⟩, .string ⟨#[]⟩] 31)).heap.size = w2.heap.size + 1 + 1 := by simp
  rw [z1] at h2
  rw [z2] at h3
  exact ⟨_, _, _, (h1.alloc _).alloc _, h2.alloc _, h3, fun j x hj => by simp at hj, (((Below.refl _ _).alloc (Nat.le_refl _) _).alloc (by simp) _).alloc (by simp; omega) _⟩

/-- the series that are expected: metric, suffix, value -/
def serT (f1 f2 f3 f4 : Nat) : List (ByteArray × ByteArray × Nat) := [(reqB, cpuS, f1), (reqB, memS, f3)] ++ opt f2 (limB, cpuS, f2) ++ opt f4 (limB, memS, f4)
def onto (L : ByteArray) (x : ByteArray × ByteArray × Nat) : ByteArray × ByteArray × Nat := (x.1, L ++ x.2.1, x.2.2)

theorem serK_T (L : ByteArray) (f1 f2 f3 f4 : Nat) : serK (L ++ cpuS) (L ++ memS) f1 f2 f3 f4 = (serT f1 f2 f3 f4).map (onto L) := by
  unfold serK serT opt
  split <;> split <;> simp [onto]

theorem serT_len (f1 f2 f3 f4 : Nat) : 2 ≤ (serT f1 f2 f3 f4).length ∧ (serT f1 f2 f3 f4).length ≤ 4 := by
  unfold serT opt
  split <;> split <;> simp

theorem opt_mem {v : Nat} {x y : ByteArray × ByteArray × Nat} (h : x ∈ opt v y) : x = y := by
  unfold opt at h
  split at h
  · cases h
  · exact List.mem_singleton.1 h

theorem serT_suffix (f1 f2 f3 f4 : Nat) : ∀ x ∈ serT f1 f2 f3 f4, x.2.1.size ≤ 30 := by
  have hc : cpuS.size ≤ 30 := by decide
  have hm : memS.size ≤ 30 := by decide
  intro x hx
  unfold serT at hx
  rcases List.mem_append.1 hx with h | h
  · rcases List.mem_append.1 h with h | h
    · rcases List.mem_cons.1 h with rfl | h
      · exact hc
      · rw [List.mem_singleton.1 h]; exact hm
    · rw [opt_mem h]; exact hc
  · rw [opt_mem h]; exact hm

theorem got_at {W : World} {bg n cg : Nat} {gs : List Sg} {xs : List (ByteArray × ByteArray × Nat)} {L : ByteArray} (h : Ss W (.slice (some ⟨bg, 0, none⟩) n cg) gs) (hk : gs.map key = xs.map (onto L)) (j : Nat) (m s : ByteArray) (v : Nat) (hx : xs[j]? = some (m, s, v)) :
    ∃ b, W.cell? ⟨bg, j * 3, none⟩ = some (.string m) ∧ W.cell? ⟨bg, j * 3 + 1, none⟩ = some (.string (L ++ s)) ∧ W.cell? ⟨bg, j * 3 + 2, none⟩ = some (.slice (some ⟨b, 0, none⟩) 20159 20159) ∧
      Sd W (.agg #[.string m, .string (L ++ s), .slice (some ⟨b, 0, none⟩) 20159 20159]) m (L ++ s) v := by
  obtain ⟨b, cap, e, hc⟩ := h
  cases e
  have h1 : (gs.map key)[j]? = some (m, L ++ s, v) := by rw [hk, List.getElem?_map, hx]; rfl
  rw [List.getElem?_map, Option.map_eq_some_iff] at h1
  obtain ⟨g, hg, hgk⟩ := h1
  obtain ⟨c0, c1, c2, hr⟩ := hc j g hg
  unfold key at hgk
  obtain ⟨rfl, h2⟩ := Prod.mk.inj hgk
  obtain ⟨h3, rfl⟩ := Prod.mk.inj h2
  rw [h3] at c1
  exact ⟨g.b, c0, c1, c2, _, rfl, hr.sm⟩

theorem AList.at {w2 W : World} {xs : List (ByteArray × ByteArray × Nat)} (h : AList w2 W xs) (hl : xs.length ≤ 4) (j : Nat) (m s : ByteArray) (v : Nat) (hx : xs[j]? = some (m, s, v)) :
    W.cell? ⟨w2.heap.size, j, none⟩ = some (.string m) ∧ W.cell? ⟨w2.heap.size + 1, j, none⟩ = some (.string s) ∧ W.cell? ⟨w2.heap.size + 1 + 1, j, none⟩ = some (.float .f64 v) := by
  obtain ⟨fm, fs, fv, h1, h2, h3, h4, _⟩ := h
  obtain ⟨e1, e2, e3⟩ := h4 j _ hx
  have hj := (List.getElem?_eq_some_iff.1 hx).1
  exact ⟨by rw [h1.cell (by omega), e1], by rw [h2.cell (by omega), e2], by rw [h3.cell (by omega), e3]⟩

theorem extract_head (p q : ByteArray) : (p ++ q).extract 0 p.size = p := ByteArray.extract_append_eq_left rfl

set_option maxHeartbeats 1000000 in
theorem spec_law (F : Interp) (a b c : ByteArray) (f1 f2 f3 f4 : Nat) (w : World) (hF : F.told.answers w.tape) (ha : a.size ≤ maxLen) (hb : b.size ≤ maxLen) (hc : c.size ≤ maxLen) :
    Calls Tryf.prog 3 #[.string a, .string b, .string c, .float .f64 f1, .float .f64 f2, .float .f64 f3, .float .f64 f4] w fun e w' => e = .returned (.bool true) ∧ Below w.heap.size w w' := by
  have HF : Hid (F.told.answers w.tape) := hF
  have C5 : Hid (Calls Tryf.prog 5 #[.string a, .string b, .string c, .float .f64 f1, .float .f64 f2, .float .f64 f3, .float .f64 f4] w fun e w' => IsB e ∧ w' = w) := bytes5_any a b c f1 f2 f3 f4 w ha hb hc
  unfold maxLen at ha hb hc
  clear hF
  go_enter Tryf.func3, Tryf.ntmps3
  go_wp2_with fail
  refine C5.out.mono ?_
  rintro e w ⟨⟨r, rfl⟩, rfl⟩
  cases r with
  | false =>
    go_wp2_with fail
    go_ret
    exact ⟨rfl, Below.refl _ _⟩
  | true =>
    by_cases h1 : (65536 : Int) < a.size
    · go_wp2_with fail
      go_ret
      exact ⟨rfl, Below.refl _ _⟩
    by_cases h2 : (65536 : Int) < b.size
    · go_wp2_with fail
      go_ret
      exact ⟨rfl, Below.refl _ _⟩
    by_cases h3 : (65536 : Int) < c.size
    · go_wp2_with fail
      go_ret
      exact ⟨rfl, Below.refl _ _⟩
    have HL : Hid ((labB F.told a b c).size ≤ 2000000) := labB_size F a b c (by omega) (by omega) (by omega)
    obtain ⟨w1, hw1⟩ : ∃ w1, w.alloc (.cells #[.string a, .string b, .string c, .float .f64 f1, .float .f64 f2, .float .f64 f3, .float .f64 f4] 25) = w1 := ⟨_, rfl⟩
    have hb1 : Below w.heap.size w w1 := by rw [← hw1]; exact (Below.refl _ _).alloc (Nat.le_refl _) _
    have HB1 := Hid.mk' hb1
    have HW1 := Hid.mk' hw1
    clear hb1 hw1
    go_wp2_with fail
    rw [HW1.out]
    clear HW1
    refine (zseries_any F.told a b c f1 f2 f3 f4 w1 (by rw [HB1.out.tape]; exact HF.out) HL.out).mono ?_
    rintro e w2 ⟨v16, gs, rfl, hss, hkey, hb2⟩
    have HSs := Hid.mk' hss
    have HKey := Hid.mk' hkey
    have HB2 : Hid (Below w.heap.size w w2) := HB1.out.trans (hb2.mono HB1.out.size)
    obtain ⟨bg, cg, hv, hcells⟩ := hss
    subst hv
    clear hkey hb2 hcells
    obtain ⟨wA, hwA⟩ : ∃ wA, ((w2.alloc (.cells #[.string ⟨#[]⟩, .string ⟨#[]⟩, .string ⟨#[]⟩, .string ⟨#[]⟩] 31)).alloc (.cells #[.string ⟨#[]⟩, .string ⟨#[]⟩, .string ⟨#[]⟩, .string ⟨#[]⟩] 31)).alloc (.cells #[.float .f64 0, .float .f64 0, .float .f64 0, .float .f64 0] 32) = wA := ⟨_, rfl⟩
    have HWA := Hid.mk' hwA
    have HA0 : Hid (AList w2 wA []) := by rw [← hwA]; exact AList.start w2
    clear hwA
    go_upto_region 12 with fail
    rw [HWA.out]
    clear HWA
    obtain ⟨u1, u2, u3, x1, x2, x3, x4, x5, x6⟩ := HA0.out.facts 0 (by decide) (.string ⟨#[107, 117, 98, 101, 95, 112, 111, 100, 95, 99, 111, 110, 116, 97, 105, 110, 101, 114, 95, 114, 101, 115, 111, 117, 114, 99, 101, 95, 114, 101, 113, 117, 101, 115, 116, 115]⟩) (.string ⟨#[44, 114, 101, 115, 111, 117, 114, 99, 101, 61, 34, 99, 112, 117, 34, 44, 117, 110, 105, 116, 61, 34, 99, 111, 114, 101, 34]⟩)
    obtain ⟨wB, hwB, hA1⟩ := HA0.out.push 0 rfl ⟨#[107, 117, 98, 101, 95, 112, 111, 100, 95, 99, 111, 110, 116, 97, 105, 110, 101, 114, 95, 114, 101, 115, 111, 117, 114, 99, 101, 95, 114, 101, 113, 117, 101, 115, 116, 115]⟩ ⟨#[44, 114, 101, 115, 111, 117, 114, 99, 101, 61, 34, 99, 112, 117, 34, 44, 117, 110, 105, 116, 61, 34, 99, 111, 114, 101, 34]⟩ f1
    have HA1 : Hid (AList w2 wB [(reqB, cpuS, f1)]) := hA1
    have HWB := Hid.mk' hwB
    clear HA0 hwB hA1
    go_upto_region 15 with fail
    rw [HWB.out]
    clear x1 x2 x3 x4 x5 x6 HWB
    obtain ⟨u4, u5, u6, x1, x2, x3, x4, x5, x6⟩ := HA1.out.facts 1 (by decide) (.string ⟨#[107, 117, 98, 101, 95, 112, 111, 100, 95, 99, 111, 110, 116, 97, 105, 110, 101, 114, 95, 114, 101, 115, 111, 117, 114, 99, 101, 95, 114, 101, 113, 117, 101, 115, 116, 115]⟩) (.string ⟨#[44, 114, 101, 115, 111, 117, 114, 99, 101, 61, 34, 109, 101, 109, 111, 114, 121, 34, 44, 117, 110, 105, 116, 61, 34, 98, 121, 116, 101, 34]⟩)
    obtain ⟨wC, hwC, hA2⟩ := HA1.out.push 1 rfl ⟨#[107, 117, 98, 101, 95, 112, 111, 100, 95, 99, 111, 110, 116, 97, 105, 110, 101, 114, 95, 114, 101, 115, 111, 117, 114, 99, 101, 95, 114, 101, 113, 117, 101, 115, 116, 115]⟩ ⟨#[44, 114, 101, 115, 111, 117, 114, 99, 101, 61, 34, 109, 101, 109, 111, 114, 121, 34, 44, 117, 110, 105, 116, 61, 34, 98, 121, 116, 101, 34]⟩ f3
    have HA2 : Hid (AList w2 wC [(reqB, cpuS, f1), (reqB, memS, f3)]) := hA2
    have HWC := Hid.mk' hwC
    clear HA1 hwC hA2
    go_upto_if 71 with fail
    rw [HWC.out]
    clear x1 x2 x3 x4 x5 x6 HWC
    obtain ⟨z, hz⟩ : ∃ z : Bool, (FloatKind.f64.format.order f2 0 != some .eq) = z := ⟨_, rfl⟩
    rw [hz]
    go_cut [21] from 72 to 80 (fun s21 wx => s21 = .int .i64 (([(reqB, cpuS, f1), (reqB, memS, f3)] ++ opt f2 (limB, cpuS, f2)).length : Nat) ∧ AList w2 wx ([(reqB, cpuS, f1), (reqB, memS, f3)] ++ opt f2 (limB, cpuS, f2)))
    case first =>
      cases z with
      | false =>
        have HZ : Hid (opt f2 (limB, cpuS, f2) = []) := by show _ = _; unfold opt; simp at hz; simp [hz]
        clear hz
        go_wp2_with fail
        go_meet
        case rel => exact ⟨by rw [HZ.out]; rfl, by rw [HZ.out]; exact HA2.out⟩
      | true =>
        have HZ : Hid (opt f2 (limB, cpuS, f2) = [(limB, cpuS, f2)]) := by show _ = _; unfold opt; simp at hz; simp [hz]
        clear hz
        obtain ⟨u7, u8, u9, x1, x2, x3, x4, x5, x6⟩ := HA2.out.facts 2 (by decide) (.string ⟨#[107, 117, 98, 101, 95, 112, 111, 100, 95, 99, 111, 110, 116, 97, 105, 110, 101, 114, 95, 114, 101, 115, 111, 117, 114, 99, 101, 95, 108, 105, 109, 105, 116, 115]⟩) (.string ⟨#[44, 114, 101, 115, 111, 117, 114, 99, 101, 61, 34, 99, 112, 117, 34, 44, 117, 110, 105, 116, 61, 34, 99, 111, 114, 101, 34]⟩)
        obtain ⟨wD, hwD, hA3⟩ := HA2.out.push 2 rfl ⟨#[107, 117, 98, 101, 95, 112, 111, 100, 95, 99, 111, 110, 116, 97, 105, 110, 101, 114, 95, 114, 101, 115, 111, 117, 114, 99, 101, 95, 108, 105, 109, 105, 116, 115]⟩ ⟨#[44, 114, 101, 115, 111, 117, 114, 99, 101, 61, 34, 99, 112, 117, 34, 44, 117, 110, 105, 116, 61, 34, 99, 111, 114, 101, 34]⟩ f2
        have HA3 : Hid (AList w2 wD ([(reqB, cpuS, f1), (reqB, memS, f3)] ++ [(limB, cpuS, f2)])) := hA3
        have HWD := Hid.mk' hwD
        clear hwD hA3
        go_wp2_with fail
        rw [HWD.out]
        go_meet
        case rel => exact ⟨by rw [HZ.out]; rfl, by rw [HZ.out]; exact HA3.out⟩
    case rest =>
      obtain ⟨hs21, hA3⟩ := hcut
      have HA3 := Hid.mk' hA3
      obtain ⟨xs, hxs⟩ : ∃ xs, [(reqB, cpuS, f1), (reqB, memS, f3)] ++ opt f2 (limB, cpuS, f2) = xs := ⟨_, rfl⟩
      have HXS : Hid (serT f1 f2 f3 f4 = xs ++ opt f4 (limB, memS, f4)) := by show _ = _; rw [← hxs]; rfl
      have hxl : xs.length ≤ 3 := by rw [← hxs]; unfold opt; split <;> simp
      rw [hxs] at HA3 hs21
      clear hA3 hxs hz HA2
      subst hs21
      obtain ⟨n, hn⟩ : ∃ n, xs.length = n := ⟨_, rfl⟩
      have HN := Hid.mk' hn
      rw [hn] at hxl ⊢
      clear hn
      have hn4 : n < 4 := by omega
      have hn5 : (n : Int) < 4 := by omega
      go_upto_if 82 with fail
      obtain ⟨z, hz⟩ : ∃ z : Bool, (FloatKind.f64.format.order f4 0 != some .eq) = z := ⟨_, rfl⟩
      rw [hz]
      go_cut [21] from 83 to 91 (fun s21 wx => s21 = .int .i64 ((serT f1 f2 f3 f4).length : Nat) ∧ AList w2 wx (serT f1 f2 f3 f4))
      case first =>
        cases z with
        | false =>
          have HZ : Hid (opt f4 (limB, memS, f4) = []) := by show _ = _; unfold opt; simp at hz; simp [hz]
          clear hz
          go_wp2_with fail
          go_meet
          case rel => exact ⟨by rw [HXS.out, HZ.out, List.append_nil, HN.out], by rw [HXS.out, HZ.out, List.append_nil]; exact HA3.out⟩
        | true =>
          have HZ : Hid (opt f4 (limB, memS, f4) = [(limB, memS, f4)]) := by show _ = _; unfold opt; simp at hz; simp [hz]
          clear hz
          obtain ⟨u7, u8, u9, x1, x2, x3, x4, x5, x6⟩ := HA3.out.facts n hn4 (.string ⟨#[107, 117, 98, 101, 95, 112, 111, 100, 95, 99, 111, 110, 116, 97, 105, 110, 101, 114, 95, 114, 101, 115, 111, 117, 114, 99, 101, 95, 108, 105, 109, 105, 116, 115]⟩) (.string ⟨#[44, 114, 101, 115, 111, 117, 114, 99, 101, 61, 34, 109, 101, 109, 111, 114, 121, 34, 44, 117, 110, 105, 116, 61, 34, 98, 121, 116, 101, 34]⟩)
          obtain ⟨wD, hwD, hA4⟩ := HA3.out.push n HN.out ⟨#[107, 117, 98, 101, 95, 112, 111, 100, 95, 99, 111, 110, 116, 97, 105, 110, 101, 114, 95, 114, 101, 115, 111, 117, 114, 99, 101, 95, 108, 105, 109, 105, 116, 115]⟩ ⟨#[44, 114, 101, 115, 111, 117, 114, 99, 101, 61, 34, 109, 101, 109, 111, 114, 121, 34, 44, 117, 110, 105, 116, 61, 34, 98, 121, 116, 101, 34]⟩ f4
          have HA4 : Hid (AList w2 wD (xs ++ [(limB, memS, f4)])) := hA4
          have HWD := Hid.mk' hwD
          clear hwD hA4
          go_wp2_with fail
          rw [HWD.out]
          go_meet
          case rel => exact ⟨by rw [HXS.out, HZ.out, List.length_append, HN.out]; go_num, by rw [HXS.out, HZ.out]; exact HA4.out⟩
      case rest =>
        obtain ⟨hs21, hA5⟩ := hcut
        have HA5 := Hid.mk' hA5
        have HBw : Hid (Below w2.heap.size w2 wc) := by
          obtain ⟨_, _, _, _, _, _, _, h⟩ := hA5
          exact h
        subst hs21
        clear hA5 hz HA3 HN HXS hxl hn4 hn5
        obtain ⟨L, hL⟩ : ∃ L, labB F.told a b c = L := ⟨_, rfl⟩
        rw [hL] at HL HKey
        clear hL
        have hls := HL.out
        have HT := Hid.mk' (serT_len f1 f2 f3 f4)
        have HSf := Hid.mk' (serT_suffix f1 f2 f3 f4)
        have HT0 : Hid ((serT f1 f2 f3 f4)[0]? = some (reqB, cpuS, f1)) := by show _ = _; simp [serT]
        have HKx : Hid (gs.map key = (serT f1 f2 f3 f4).map (onto L)) := by show _ = _; rw [HKey.out, serK_T]
        obtain ⟨xt, hxt⟩ : ∃ xt, serT f1 f2 f3 f4 = xt := ⟨_, rfl⟩
        rw [hxt] at HT HSf HT0 HKx HA5 ⊢
        clear hxt HKey
        have hgl : gs.length = xt.length := by have := congrArg List.length HKx.out; simpa using this
        rw [hgl] at HSs ⊢
        obtain ⟨n, hn⟩ : ∃ n, xt.length = n := ⟨_, rfl⟩
        have HN := Hid.mk' hn
        rw [hn] at HT HSs ⊢
        have hn2 := HT.out.1
        have hn3 := HT.out.2
        have hn4 : (2 : Int) ≤ (n : Int) := by omega
        have hn5 : (n : Int) ≤ 4 := by omega
        have hn6 : (0 : Int) < (n : Int) := by omega
        clear hn hgl
        have HSc := Hid.mk' (HSs.out.keep HBw.out)
        obtain ⟨b0, c0, c1, c2, hsd⟩ := got_at HSc.out HKx.out 0 reqB cpuS f1 HT0.out
        rw [Nat.zero_mul] at c0 c1 c2
        obtain ⟨l0, hl0⟩ : ∃ l0, L ++ cpuS = l0 := ⟨_, rfl⟩
        have hsz : l0.size = L.size + 27 := by rw [← hl0, ByteArray.size_append]; rfl
        have hex : l0.extract 0 L.size = L := by rw [← hl0]; exact extract_head L cpuS
        have C8 : Hid (∀ W, Calls Tryf.prog 8 #[.string l0, .string ⟨#[44, 114, 101, 115, 111, 117, 114, 99, 101, 61, 34, 99, 112, 117, 34, 44, 117, 110, 105, 116, 61, 34, 99, 111, 114, 101, 34]⟩] W fun e w' => e = .returned (.bool true) ∧ w' = W) := fun W => by
          rw [← hl0]
          exact suffix_any L cpuS (by have : cpuS.size = 27 := rfl; omega) W
        rw [hl0] at c1 hsd
        have HSd := Hid.mk' hsd
        clear hl0 hsd HSs
        go_wp2_with fail
        refine (zlabels_any HSd.out).mono ?_
        rintro e w3 ⟨rfl, hb3⟩
        have HB3 := Hid.mk' hb3
        clear hb3 HSd c0 c1 c2
        go_wp2_with fail
        refine (C8.out _).mono ?_
        rintro e w3 ⟨rfl, rfl⟩
        go_wp2_with fail
        clear hex hsz C8
        go_loopw [24] (fun i wr => ∃ k : Nat, k ≤ n ∧ i = .int .i64 k ∧ Below wc.heap.size wc wr) (fun i _ => n - (intOf i).toNat)
        case atStart => exact ⟨0, Nat.zero_le _, rfl, HB3.out⟩
        case round =>
          obtain ⟨k, hk, rfl, hbel⟩ := hrel
          have HBr := Hid.mk' hbel
          have HFin : Hid (Below w.heap.size w wr) := HB2.out.trans ((HBw.out.trans (hbel.mono HBw.out.size)).mono HB2.out.size)
          clear hbel
          by_cases hlt : k < n
          · obtain ⟨m, s, v, hx⟩ : ∃ m s v, xt[k]? = some (m, s, v) := by
              have h : k < xt.length := by rw [HN.out]; exact hlt
              exact ⟨xt[k].1, xt[k].2.1, xt[k].2.2, List.getElem?_eq_getElem h⟩
            have hsz : s.size ≤ 30 := HSf.out _ (List.mem_of_getElem? hx)
            obtain ⟨b1, c0, c1, c2, hsd⟩ := got_at (HSc.out.keep HBr.out) HKx.out k m s v hx
            obtain ⟨a0, a1, a2⟩ := HA5.out.at (by have := HT.out; have := HN.out; omega) k m s v hx
            have d0 := cell_step a0 HBr.out
            have d1 := cell_step a1 HBr.out
            have d2 := cell_step a2 HBr.out
            obtain ⟨l, hl⟩ : ∃ l, L ++ s = l := ⟨_, rfl⟩
            rw [hl] at c1 hsd
            have hcat : ∀ w, (Op.stringOp .add L s).run Tryf.prog w = .ok (.string l) w := fun w => by
              rw [← hl]
              exact run_string_add_sum w L s (by omega)
            have hcs : L.size + s.size ≤ 9223372036854775807 := by omega
            have hk4 : (k : Int) < 4 := by omega
            have hk5 : (k : Int) < (n : Int) := by omega
            clear a0 a1 a2 hx
            go_wp2_with fail
            go_region_held3 (fun W => Below wr.heap.size wr W ∧ W.cell? ⟨bg, k * 3, none⟩ = some (.string m) ∧ W.cell? ⟨bg, k * 3 + 1, none⟩ = some (.string l) ∧ W.cell? ⟨bg, k * 3 + 2, none⟩ = some (.slice (some ⟨b1, 0, none⟩) 20159 20159) ∧ W.cell? ⟨w2.heap.size, k, none⟩ = some (.string m) ∧ W.cell? ⟨w2.heap.size + 1, k, none⟩ = some (.string s) ∧ W.cell? ⟨w2.heap.size + 1 + 1, k, none⟩ = some (.float .f64 v)) (first | exact ⟨(Below.refl _ _).drew, c0, c1, c2, d0, d1, d2⟩ | assumption | exact S12.step (by assumption) (by assumption)) (first
              | (go_at_call 9; refine (zmetric_any (m := m) (l := l) (v := v) (Sd.keep (by assumption) (And.left (by assumption)))).mono ?_; rintro e w4 ⟨rfl, hb4⟩))
            all_goals go_wp2_with fail
            have hs4 : Below wr.heap.size wr w4 ∧ w4.cell? ⟨bg, k * 3, none⟩ = some (.string m) ∧ w4.cell? ⟨bg, k * 3 + 1, none⟩ = some (.string l) ∧ w4.cell? ⟨bg, k * 3 + 2, none⟩ = some (.slice (some ⟨b1, 0, none⟩) 20159 20159) ∧ w4.cell? ⟨w2.heap.size, k, none⟩ = some (.string m) ∧ w4.cell? ⟨w2.heap.size + 1, k, none⟩ = some (.string s) ∧ w4.cell? ⟨w2.heap.size + 1 + 1, k, none⟩ = some (.float .f64 v) := by assumption
            go_region_held3 (fun W => Below wr.heap.size wr W ∧ W.cell? ⟨bg, k * 3, none⟩ = some (.string m) ∧ W.cell? ⟨bg, k * 3 + 1, none⟩ = some (.string l) ∧ W.cell? ⟨bg, k * 3 + 2, none⟩ = some (.slice (some ⟨b1, 0, none⟩) 20159 20159) ∧ W.cell? ⟨w2.heap.size, k, none⟩ = some (.string m) ∧ W.cell? ⟨w2.heap.size + 1, k, none⟩ = some (.string s) ∧ W.cell? ⟨w2.heap.size + 1 + 1, k, none⟩ = some (.float .f64 v)) (first | exact ⟨hs4.1.drew, hs4.2⟩ | assumption | exact S12.step (by assumption) (by assumption)) (first
              | (go_at_call 7; refine (zlabels_any (m := m) (l := l) (v := v) (Sd.keep (by assumption) (And.left (by assumption)))).mono ?_; rintro e w5 ⟨rfl, hb5⟩))
            all_goals go_wp2_with fail
            have hs5 : Below wr.heap.size wr w5 ∧ w5.cell? ⟨bg, k * 3, none⟩ = some (.string m) ∧ w5.cell? ⟨bg, k * 3 + 1, none⟩ = some (.string l) ∧ w5.cell? ⟨bg, k * 3 + 2, none⟩ = some (.slice (some ⟨b1, 0, none⟩) 20159 20159) ∧ w5.cell? ⟨w2.heap.size, k, none⟩ = some (.string m) ∧ w5.cell? ⟨w2.heap.size + 1, k, none⟩ = some (.string s) ∧ w5.cell? ⟨w2.heap.size + 1 + 1, k, none⟩ = some (.float .f64 v) := by assumption
            go_region_held3 (fun W => Below wr.heap.size wr W ∧ W.cell? ⟨bg, k * 3, none⟩ = some (.string m) ∧ W.cell? ⟨bg, k * 3 + 1, none⟩ = some (.string l) ∧ W.cell? ⟨bg, k * 3 + 2, none⟩ = some (.slice (some ⟨b1, 0, none⟩) 20159 20159) ∧ W.cell? ⟨w2.heap.size, k, none⟩ = some (.string m) ∧ W.cell? ⟨w2.heap.size + 1, k, none⟩ = some (.string s) ∧ W.cell? ⟨w2.heap.size + 1 + 1, k, none⟩ = some (.float .f64 v)) (first | exact ⟨hs5.1.drew, hs5.2⟩ | assumption | exact S12.step (by assumption) (by assumption)) (first
              | (go_at_call 10; refine (over_any (m := m) (l := l) (v := v) (Sd.keep (by assumption) (And.left (by assumption)))).mono ?_; rintro e w6 ⟨rfl, hb6⟩))
            all_goals go_wp2_with fail
            go_roundw
            case rel => exact ⟨k + 1, by omega, by go_num, fin12 HBr.out (by assumption)⟩
            case measure => simp [intOf]; omega
          · go_wp2_with fail
            go_ret
            exact ⟨rfl, HFin.out⟩
end Go.Proofs.Qxb6628292aFmt
