import Derived.Test.Qxb6628254aDoorTextLaw
namespace Go.Proofs.Qxb6628254aDoor
open Go.RowKit

theorem S13.step {w1 W W' : World} {p q r : Addr} {x y z : Value} (h : Below w1.heap.size w1 W ∧ W.cell? p = some x ∧ W.cell? q = some y ∧ W.cell? r = some z) (hb : Below W.heap.size W W') :
    Below w1.heap.size w1 W' ∧ W'.cell? p = some x ∧ W'.cell? q = some y ∧ W'.cell? r = some z := by
  obtain ⟨h0, h1, h2, h3⟩ := h
  exact ⟨h0.trans (hb.mono h0.size), (hb.cell (World.block_lt_of_cell? W _ h1)).trans h1, (hb.cell (World.block_lt_of_cell? W _ h2)).trans h2, (hb.cell (World.block_lt_of_cell? W _ h3)).trans h3⟩

theorem argsB_small (y : ByteArray) (r : List ByteArray) (ht : total ((y :: r).map (·.data.toList)) ≤ 1048577) : (argsB r).long.length ≤ 1048576 ∧ (argsB r).ops.length ≤ 1048576 := by
  rw [List.map_cons, total_cons] at ht
  rw [argsB_eq]
  have h1 := argFold_small (r.take (endAt r))
  have h2 : total (r.map (·.data.toList)) = total ((r.take (endAt r)).map (·.data.toList)) + total ((r.drop (endAt r)).map (·.data.toList)) := by
    rw [← total_append, ← List.map_append, List.take_append_drop]
  have h3 := length_total ((r.drop (endAt r)).map (·.data.toList))
  rw [List.length_map, List.length_drop] at h3
  simp only [List.length_append, List.length_drop]
  omega

set_option maxHeartbeats 1000000 in
theorem blockis_any (v vw : Value) (y : ByteArray) (r : List ByteArray) (x : Blk) (w : World) (i : Nat) (hv : ∃ vb ao n c, v = .agg #[vb, .slice ao n c]) (h1 : Pr w v i x) (hx : x = mkBlk (y :: r)) (hw : Sl w vw (y :: r))
    (ht : total ((y :: r).map (·.data.toList)) ≤ 1048577) :
    Calls Tryd.prog 13 #[v, .int .i64 i, vw] w fun e w' => e = .returned (.bool true) ∧ Below w.heap.size w w' := by
  have HP1 : Hid (Pr w v i x) := h1
  have HSw : Hid (Sl w vw (y :: r)) := hw
  obtain ⟨ab, nb, cb, va, rfl⟩ := h1.shape
  obtain ⟨_, aa, na, ca, hv⟩ := hv
  simp at hv
  obtain ⟨rfl, rfl⟩ := hv
  have hsm := argsB_small y r ht
  have hlen := length_total ((y :: r).map (·.data.toList))
  rw [List.length_map] at hlen
  have HYs : Hid (y.size ≤ 1048576) := by show _ ≤ _; rw [List.map_cons, total_cons, data_len] at ht; omega
  have HRt : Hid (total (r.map (·.data.toList)) ≤ 2097152) := by show _ ≤ _; rw [List.map_cons, total_cons] at ht; omega
  have HWt : Hid (total ((y :: r).map (·.data.toList)) ≤ 2097152) := by show _ ≤ _; omega
  have HWl : Hid ((y :: r).length ≤ 1048577) := by show _ ≤ _; omega
  obtain ⟨T, hT⟩ : ∃ T, joinB (y :: r) = T := ⟨_, rfl⟩
  obtain ⟨p, hp⟩ : ∃ p, progB y = p := ⟨_, rfl⟩
  obtain ⟨a, haa⟩ : ∃ a, argsB r = a := ⟨_, rfl⟩
  have hxt : x.text = T := by rw [hx, ← hT]; rfl
  have hxp : x.prog = p := by rw [hx, ← hp]; rfl
  have hxa : x.args = a := by rw [hx, ← haa]; rfl
  rw [haa] at hsm
  obtain ⟨hsl, hso⟩ := hsm
  have C16 : Hid (∀ W, Below w.heap.size w W → Calls Tryd.prog 16 #[.agg #[.slice ab nb cb, .slice aa na ca], .int .i64 i] W fun e w' => e = .returned (.string T) ∧ Below W.heap.size W w') := fun W hb => by rw [← hxt]; exact text_pr _ _ _ (HP1.out.keep hb)
  have C18 : Hid (∀ W, Below w.heap.size w W → Calls Tryd.prog 18 #[.agg #[.slice ab nb cb, .slice aa na ca], .int .i64 i] W fun e w' => e = .returned (.string p) ∧ Below W.heap.size W w') := fun W hb => by rw [← hxp]; exact prog_pr _ _ _ (HP1.out.keep hb)
  have C29 : Hid (∀ W, Below w.heap.size w W → Calls Tryd.prog 29 #[.agg #[.slice ab nb cb, .slice aa na ca], .int .i64 i] W fun e w' => e = .returned (.string a.flags) ∧ Below W.heap.size W w') := fun W hb => by rw [← hxa]; exact flags_pr _ _ _ (HP1.out.keep hb)
  have C30 : Hid (∀ W, Below w.heap.size w W → Calls Tryd.prog 30 #[.agg #[.slice ab nb cb, .slice aa na ca], .int .i64 i] W fun e w' => (∃ vl, e = .returned vl ∧ Sl w' vl a.long) ∧ Below W.heap.size W w') := fun W hb => by rw [← hxa]; exact long_pr _ _ _ (HP1.out.keep hb)
  have C31 : Hid (∀ W, Below w.heap.size w W → Calls Tryd.prog 31 #[.agg #[.slice ab nb cb, .slice aa na ca], .int .i64 i] W fun e w' => (∃ vl, e = .returned vl ∧ Sl w' vl a.ops) ∧ Below W.heap.size W w') := fun W hb => by rw [← hxa]; exact ops_pr _ _ _ (HP1.out.keep hb)
  have C17 : Hid (∀ W, Below w.heap.size w W → Calls Tryd.prog 17 #[vw] W fun e w' => e = .returned (.string T) ∧ Below W.heap.size W w') := fun W hb => by rw [← hT]; exact join_any (y :: r) _ _ (by have := HWl.out; omega) HWt.out (HSw.out.keep hb)
  have C27 : Hid (∀ W, Calls Tryd.prog 27 #[.string y] W fun e w' => e = .returned (.string p) ∧ w' = W) := fun W => by rw [← hp]; exact zprogram_any y HYs.out W
  obtain ⟨wo, wc, hvw, hwc1, hwc2, hwx⟩ := hw
  obtain ⟨b4, o4, he4, c4⟩ := hwx (by simp)
  subst hvw he4
  have cy : w.cell? ⟨b4, o4, none⟩ = some (.string y) := by have := c4 0 y rfl; rwa [Nat.add_zero] at this
  have hrl : r.length = (y :: r).length - 1 := rfl
  obtain ⟨n, hn⟩ : ∃ n, (y :: r).length = n := ⟨_, rfl⟩
  obtain ⟨A1, hA1, HS1⟩ : ∃ A1, (if wc = 1 then some (⟨b4, o4, none⟩ : Addr) else some ⟨b4, o4 + 1, none⟩) = some A1 ∧ Hid (Sl w (.slice (some A1) (n - 1) (wc - 1)) r) := by
    have hn1 : n = r.length + 1 := by rw [← hn]; rfl
    by_cases h : wc = 1
    · refine ⟨⟨b4, o4, none⟩, by simp [h], ?_⟩
      refine ⟨_, _, by rw [hrl, hn], by omega, by unfold maxLen at *; omega, fun h0 => ?_⟩
      omega
    · refine ⟨⟨b4, o4 + 1, none⟩, by simp [h], ?_⟩
      refine ⟨_, _, by rw [hrl, hn], by omega, by unfold maxLen at *; omega, fun h0 => ⟨b4, o4 + 1, rfl, fun j u hu => ?_⟩⟩
      rw [Nat.add_assoc, Nat.add_comm 1 j]
      exact c4 (j + 1) u (by simpa using hu)
  have HRl : Hid (r.length ≤ 1048576) := by
    show _ ≤ _
    have h := HWl.out
    have : (y :: r).length = r.length + 1 := rfl
    omega
  have C28 : Hid (∀ W, Below w.heap.size w W → Calls Tryd.prog 28 #[.slice (some A1) (n - 1) (wc - 1)] W fun e w' => ZAns a W e w') := fun W hb => by
    rw [← haa]
    exact zargs_any r _ W HRl.out HRt.out (HS1.out.keep hb)
  have hn1 : 0 < n := by rw [← hn]; exact Nat.succ_pos _
  have hn2 : (1 : Int) ≤ (n : Int) := by omega
  have hn3 : (0 : Int) < (n : Int) := by omega
  have hwn : n ≤ wc := by rw [← hn]; exact hwc1
  have hn4 : (1 : Int) ≤ (wc : Int) := by omega
  have hn5 : (n : Int) ≤ (wc : Int) := by omega
  rw [hn] at C17 ⊢
  obtain ⟨w1, hw1⟩ : ∃ w1, w.alloc (.cells #[.slice ab nb cb, .slice aa na ca] 28) = w1 := ⟨_, rfl⟩
  have hb1 : Below w.heap.size w w1 := by rw [← hw1]; exact (Below.refl _ _).alloc (Nat.le_refl _) _
  have HB1 := Hid.mk' hb1
  have b0 : w1.heap[w.heap.size]? = some (.cells #[.slice ab nb cb, .slice aa na ca] 28) := by rw [← hw1]; exact heap_alloc_new _ _
  obtain ⟨k0, k1, _, _⟩ := cells2 b0
  have HW1 := Hid.mk' hw1
  clear hb1 b0 hw1 HP1 HSw h1 hx hxt hxp hxa hT hp haa hwx c4 hwc1 hwc2 ht hlen hrl hn
  go_enter Tryd.func13, Tryd.ntmps13
  go_wp2_with fail
  rw [HW1.out]
  clear HW1
  refine (C16.out _ HB1.out).mono ?_
  rintro e w2 ⟨rfl, hb2⟩
  have HB2 : Hid (Below w.heap.size w w2) := HB1.out.trans (hb2.mono HB1.out.size)
  have k02 := cell_step k0 hb2
  have k12 := cell_step k1 hb2
  clear hb2 k0 k1
  go_wp2_with fail
  refine (C17.out _ HB2.out).mono ?_
  rintro e w3 ⟨rfl, hb3⟩
  have HB3 : Hid (Below w.heap.size w w3) := HB2.out.trans (hb3.mono HB2.out.size)
  have k03 := cell_step k02 hb3
  have k13 := cell_step k12 hb3
  have cy3 := cell_step cy HB3.out
  have k03d : w3.drew.cell? ⟨w.heap.size, 0, none⟩ = some (.slice ab nb cb) := k03
  have k13d : w3.drew.cell? ⟨w.heap.size, 1, none⟩ = some (.slice aa na ca) := k13
  clear hb3 k02 k12 cy
  go_wp2_with fail
  go_region_held3 (fun w' => Below w3.heap.size w3 w' ∧ w'.cell? ⟨w.heap.size, 0, none⟩ = some (.slice ab nb cb) ∧ w'.cell? ⟨w.heap.size, 1, none⟩ = some (.slice aa na ca) ∧ w'.cell? ⟨b4, o4, none⟩ = some (.string y)) (first | exact ⟨(Below.refl _ _).drew, k03, k13, cy3⟩ | assumption | exact S13.step (by assumption) (by assumption)) (first
    | (go_at_call 18; refine (C18.out _ (fin14 HB3.out (by assumption))).mono ?_; rintro e w4 ⟨rfl, hb4⟩; have HB4 : Hid (Below w.heap.size w w4) := HB3.out.trans (((Below.refl w3.heap.size w3).drew.trans hb4).mono HB3.out.size); have k04 := cell_step k03d hb4; have k14 := cell_step k13d hb4)
    | (go_at_call 27; refine (C27.out _).mono ?_; rintro e w5 ⟨rfl, rfl⟩))
  all_goals go_wp2_with fail
  refine (C28.out _ HB4.out).mono ?_
  rintro e w6 ⟨vl, vo, rfl, sl, so, hb6⟩
  have HB6 : Hid (Below w.heap.size w w6) := HB4.out.trans (hb6.mono HB4.out.size)
  have k06 := cell_step k04 hb6
  have k16 := cell_step k14 hb6
  clear hb6 k04 k14 k03 k13 k03d k13d
  go_wp2_with fail
  refine (C29.out _ HB6.out).mono ?_
  rintro e w7 ⟨rfl, hb7⟩
  have HB7 : Hid (Below w.heap.size w w7) := HB6.out.trans (hb7.mono HB6.out.size)
  have k07 := cell_step k06 hb7
  have k17 := cell_step k16 hb7
  have sl7 := sl.keep hb7
  have so7 := so.keep hb7
  clear hb7 k06 k16 sl so
  go_wp2_with fail
  refine (C30.out _ HB7.out).mono ?_
  rintro e w8 ⟨⟨v39, rfl, s39⟩, hb8⟩
  have HB8 : Hid (Below w.heap.size w w8) := HB7.out.trans (hb8.mono HB7.out.size)
  have k08 := cell_step k07 hb8
  have k18 := cell_step k17 hb8
  have sl8 := sl7.keep hb8
  have so8 := so7.keep hb8
  clear hb8 k07 k17 sl7 so7
  go_wp2_with fail
  refine (eq_sl _ _ _ ⟨_, hsl, s39, sl8⟩).mono ?_
  rintro e w9 ⟨rfl, hb9⟩
  have HB9 : Hid (Below w.heap.size w w9) := HB8.out.trans (hb9.mono HB8.out.size)
  have k09 := cell_step k08 hb9
  have k19 := cell_step k18 hb9
  have so9 := so8.keep hb9
  clear hb9 k08 k18 so8 s39 sl8
  go_wp2_with fail
  refine (C31.out _ HB9.out).mono ?_
  rintro e w10 ⟨⟨v46, rfl, s46⟩, hb10⟩
  have HB10 : Hid (Below w.heap.size w w10) := HB9.out.trans (hb10.mono HB9.out.size)
  have so10 := so9.keep hb10
  clear hb10 k09 k19 so9
  go_wp2_with fail
  refine (eq_sl _ _ _ ⟨_, hso, s46, so10⟩).mono ?_
  rintro e w11 ⟨rfl, hb11⟩
  have HB11 : Hid (Below w.heap.size w w11) := HB10.out.trans (hb11.mono HB10.out.size)
  clear hb11
  go_wp2_with fail
  go_ret
  exact ⟨rfl, HB11.out⟩
end Go.Proofs.Qxb6628254aDoor
