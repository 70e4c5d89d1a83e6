import Derived.Test.Qxb6628254aDoorBlockIs
namespace Go.Proofs.Qxb6628254aDoor
open Go.RowKit

theorem Sl.take {w : World} {ao : Option Addr} {c : Nat} {xs : List ByteArray} (h : Sl w (.slice ao xs.length c) xs) (K : Nat) (hK : K ≤ xs.length) : Sl w (.slice ao K c) (xs.take K) := by
  obtain ⟨ao', cap, hv, hc, hm, hx⟩ := h
  cases hv
  have hl : (xs.take K).length = K := by rw [List.length_take]; omega
  refine ⟨ao, c, by rw [hl], by omega, hm, fun h0 => ?_⟩
  obtain ⟨b, off, e, hcell⟩ := hx (by omega)
  refine ⟨b, off, e, fun j x hj => hcell j x ?_⟩
  have hjl := (List.getElem?_eq_some_iff.1 hj).1
  rw [List.getElem?_take_of_lt (by omega)] at hj
  exact hj

theorem Sl.drop {w : World} {ao : Option Addr} {c : Nat} {xs : List ByteArray} (h : Sl w (.slice ao xs.length c) xs) (K : Nat) (hK : K ≤ xs.length) : Sl w (.slice (if c = K then ao else ao.map (fun x => x.add K)) (xs.length - K) (c - K)) (xs.drop K) := by
  obtain ⟨ao', cap, hv, hc, hm, hx⟩ := h
  cases hv
  refine ⟨_, _, by rw [List.length_drop], by rw [List.length_drop]; omega, by omega, fun h0 => ?_⟩
  rw [List.length_drop] at h0
  obtain ⟨b, off, e, hcell⟩ := hx (by omega)
  refine ⟨b, off + K, by rw [if_neg (by omega), e, Option.map_some, Go.WideShapes.add_plain], fun j x hj => ?_⟩
  have h2 := hcell (K + j) x (by rw [List.getElem?_drop] at hj; exact hj)
  rw [← Nat.add_assoc] at h2
  exact h2

theorem blks_cut (xs : List ByteArray) (K : Nat) : blks xs = blks (xs.take K) ++ blks (xs.drop K) := by
  rw [← blks_append, List.take_append_drop]

theorem blks_at (xs : List ByteArray) (k : Nat) (hk : k < xs.length) (h0 : wordsB xs[k] ≠ []) : (blks xs)[(blks (xs.take k)).length]? = some (mkBlk (wordsB xs[k])) := by
  have e : blks xs = blks (xs.take (k + 1)) ++ blks (xs.drop (k + 1)) := blks_cut xs (k + 1)
  rw [blks_take xs k hk] at e
  have e2 : blk1 xs[k] = [mkBlk (wordsB xs[k])] := by unfold blk1; rw [if_neg h0]
  rw [e, e2, List.append_assoc, List.getElem?_append_right (Nat.le_refl _)]
  simp

set_option maxHeartbeats 1000000 in
theorem cut_law (xs ys : List ByteArray) (va vb : Value) (kk : Int) (w : World) (hmx : ∀ x ∈ xs, x.size ≤ maxLen) (hmy : ∀ x ∈ ys, x.size ≤ maxLen) (ha : Sl w va xs) (hb : Sl w vb ys) (ht : Tabs w) :
    Calls Tryd.prog 3 #[va, vb, .int .i64 kk] w fun e w' => e = .returned (.bool true) ∧ Below w.heap.size w w' := by
  have HT : Hid (Tabs w) := ht
  have HSa : Hid (Sl w va xs) := ha
  have HSb : Hid (Sl w vb ys) := hb
  have C1 : Hid (Calls Tryd.prog 5 #[va, vb, .int .i64 kk] w fun e w' => Ans (Ok xs ∧ Ok ys) e ∧ w' = w) := zbk_any xs ys va vb kk w hmx hmy ha hb
  clear ht hmx hmy
  obtain ⟨ao, ca, hva, q1⟩ := ha.form
  obtain ⟨bo, cb, hvb, q2⟩ := hb.form
  clear q1 q2
  subst hva hvb
  clear ha hb
  go_enter Tryd.func3, Tryd.ntmps3
  go_wp2_with fail
  refine C1.out.mono ?_
  rintro e w ⟨⟨r, rfl, hr⟩, rfl⟩
  cases r with
  | false =>
    go_wp2_with fail
    go_ret
    exact ⟨rfl, Below.refl _ _⟩
  | true =>
    have HO : Hid (Ok xs ∧ Ok ys) := hr rfl
    have hxl : xs.length ≤ 1048576 := HO.out.1.1
    clear hr
    go_wp2_with fail
    refine (too_any xs ys _ _ _ HO.out.1 HO.out.2 HSa.out HSb.out).mono ?_
    rintro e w ⟨⟨r, rfl, _⟩, rfl⟩
    cases r with
    | true =>
      go_wp2_with fail
      go_ret
      exact ⟨rfl, Below.refl _ _⟩
    | false =>
      have hnil : ∀ w, (binOp .neq 22 (.slice ao xs.length ca) (.slice none 0 0)).run Tryd.prog w = .ok (.bool (!ao.isNone)) w := fun w => run_neq_slice_nil w 22 9 ao xs.length ca Tryd.underlying22
      by_cases hk0 : kk < 0
      · go_wp2_with fail
        go_ret
        exact ⟨rfl, Below.refl _ _⟩
      by_cases hk1 : (xs.length : Int) < kk
      · go_wp2_with fail
        go_ret
        exact ⟨rfl, Below.refl _ _⟩
      obtain ⟨K, rfl⟩ : ∃ K : Nat, kk = (K : Int) := ⟨kk.toNat, by omega⟩
      have hK : K ≤ xs.length := by omega
      go_upto_if 37 with fail
      go_cut [0, 7] from 38 to 44 (fun s0 s7 wx => Sl wx s0 xs ∧ Below w.heap.size w wx)
      case first =>
        clear hnil
        cases ao with
        | none =>

          go_wp2_with fail
          go_meet
          case rel => exact ⟨HSa.out, Below.refl _ _⟩
        | some a0 =>
          have hmk := run_make_row' (P := Tryd.prog) 22 9 (.string ByteArray.empty) 16 Tryd.underlying22 Tryd.info9 rfl .i64 .i64 xs.length (by omega) (by omega)
          have hsz9 : (Tryd.prog.info? 9).map (·.size) = some 1 := by kernel_rfl
          obtain ⟨cs, hcs⟩ : ∃ cs, xs.map Value.string = cs := ⟨_, rfl⟩
          have HC : Hid (xs.map Value.string = cs) := hcs
          have HCl : Hid (cs.length = xs.length) := by show _ = _; rw [← hcs]; simp
          have HC1 : Hid (∀ u ∈ cs, u.oneCell' = true) := by intro u hu; rw [← hcs] at hu; obtain ⟨y, _, rfl⟩ := List.mem_map.1 hu; rfl
          have HCp : Hid (0 < cs.length → ∀ j v, cs[j]? = some v → (w.alloc (.cells (madeCells #[.string ByteArray.empty] xs.length) 9)).cell? (a0.add j) = some v) := by
            intro hp j v hj
            obtain ⟨eo, cap, hv, _, _, hx⟩ := HSa.out
            cases hv
            obtain ⟨b, off, e, hc⟩ := hx (by have := HCl.out; omega)
            cases e
            rw [← hcs, List.getElem?_map, Option.map_eq_some_iff] at hj
            obtain ⟨y, hy, rfl⟩ := hj
            rw [Go.WideShapes.add_plain]
            have c := hc j y hy
            exact (World.cell?_alloc_lt _ _ _ (World.block_lt_of_cell? w _ c)).trans c
          clear hcs
          obtain ⟨w2, hcp, HN, HB2⟩ : ∃ w2, (Builtin.copy_ #[22, 22] 3 #[.slice (some ⟨w.heap.size, 0, none⟩) xs.length xs.length, .slice (some a0) xs.length ca]).run Tryd.prog (w.alloc (.cells (madeCells #[.string ByteArray.empty] xs.length) 9)) = .ok (goInt xs.length) w2 ∧
              Hid (Sl w2 (.slice (some ⟨w.heap.size, 0, none⟩) xs.length xs.length) xs) ∧ Hid (Below w.heap.size w w2) := by
            have hr := run_copy_row (P := Tryd.prog) (w.alloc (.cells (madeCells #[.string ByteArray.empty] xs.length) 9)) 22 22 3 9 w.heap.size 0 xs.length xs.length a0 xs.length ca (madeCells #[.string ByteArray.empty] xs.length) 9 cs Tryd.underlying22 hsz9 (heap_alloc_new _ _) (by rw [HCl.out]; exact (Nat.min_self _).symm) (fun j v hj => HCp.out (by have := (List.getElem?_eq_some_iff.1 hj).1; omega) j v hj) (by rw [HCl.out, size_madeCells]; omega) HC1.out
            have e : ((madeCells #[Value.string ByteArray.empty] xs.length).toList.take 0 ++ cs ++ (madeCells #[Value.string ByteArray.empty] xs.length).toList.drop (0 + cs.length)) = cs := by
              rw [List.take_zero, List.nil_append, List.drop_of_length_le (by rw [Array.length_toList, size_madeCells, HCl.out]; omega), List.append_nil]
            rw [e, HCl.out] at hr
            refine ⟨_, hr, ?_, below_setRow ((Below.refl _ _).alloc (Nat.le_refl _) _) (Nat.le_refl _) _⟩
            refine ⟨_, _, rfl, Nat.le_refl _, by unfold maxLen; omega, fun _ => ⟨w.heap.size, 0, rfl, fun j x hj => ?_⟩⟩
            have hj2 : cs[j]? = some (.string x) := by rw [← HC.out, List.getElem?_map, hj]; rfl
            rw [Nat.zero_add]
            have hrow : ((w.alloc (.cells (madeCells #[.string ByteArray.empty] xs.length) 9)).setRow w.heap.size cs.toArray).heap[w.heap.size]? = some (.cells cs.toArray 9 (0, 0)) := setRow_heap _ _ _ _ _ _ (heap_alloc_new _ _)
            unfold World.cell?
            rw [hrow]
            simpa using hj2
          go_wp2_with fail
          go_meet
          case rel => exact ⟨HN.out, HB2.out⟩
      case rest =>
        obtain ⟨hSl, hBel⟩ := hcut
        have HS0 : Hid (Sl wc u0 xs) := hSl
        have HB0 : Hid (Below w.heap.size w wc) := hBel
        obtain ⟨eo, ce, he, q1⟩ := hSl.form
        subst he
        clear q1 hSl hBel
        go_wp2_with fail
        refine (clone_any ys _ _ HO.out.2.1 (HSb.out.keep HB0.out)).mono ?_
        rintro e w3 ⟨v6, rfl, h6, n6, hb3⟩
        obtain ⟨co, cc, h6e, q1⟩ := h6.form
        subst h6e
        clear q1
        have HS6 : Hid (Sl w3 (.slice co ys.length cc) ys) := h6
        have HN6 : Hid (nilV (.slice co ys.length cc) = nilV (.slice bo ys.length cb)) := n6
        have HB3 : Hid (Below w.heap.size w w3) := HB0.out.trans (hb3.mono HB0.out.size)
        have HS3 : Hid (Sl w3 (.slice eo xs.length ce) xs) := HS0.out.keep hb3
        clear h6 n6 hb3
        go_wp2_with fail
        refine (new_any xs _ _ _ HO.out.1.1 HO.out.1.2 HS3.out ⟨_, _, _, rfl⟩ (HT.out.keep HB3.out)).mono ?_
        rintro e w4 ⟨v9, rfl, hbl, hb4⟩
        obtain ⟨mo, mc, hm, hm1⟩ := hbl
        subst hm
        have HBl : Hid (Bl w4 (.slice mo (blks xs).length mc) (blks xs)) := ⟨mo, mc, rfl, hm1⟩
        have HB4 : Hid (Below w.heap.size w w4) := HB3.out.trans (hb4.mono HB3.out.size)
        have HS4 : Hid (Sl w4 (.slice eo xs.length ce) xs) := HS3.out.keep hb4
        have HS64 : Hid (Sl w4 (.slice co ys.length cc) ys) := HS6.out.keep hb4
        clear hm1 hb4
        have HNl : Hid ((blks xs).length ≤ 1048576) := Nat.le_trans (blks_take_len xs) HO.out.1.1
        obtain ⟨bs, hbs⟩ : ∃ bs, blks xs = bs := ⟨_, rfl⟩
        have HBS : Hid (blks xs = bs) := hbs
        rw [hbs] at HBl HNl ⊢
        clear hbs
        obtain ⟨w5, hw5⟩ : ∃ w5, w4.alloc (Obj.cells #[Value.slice mo bs.length mc, Value.slice co ys.length cc] 28) = w5 := ⟨_, rfl⟩
        have HW5 := Hid.mk' hw5
        have hb5 : Below w4.heap.size w4 w5 := by rw [← hw5]; exact (Below.refl _ _).alloc (Nat.le_refl _) _
        have HB5 : Hid (Below w.heap.size w w5) := HB4.out.trans (hb5.mono HB4.out.size)
        have HS5 : Hid (Sl w5 (.slice eo xs.length ce) xs) := HS4.out.keep hb5
        have HS65 : Hid (Sl w5 (.slice co ys.length cc) ys) := HS64.out.keep hb5
        have HBl5 : Hid (Bl w5 (.slice mo bs.length mc) bs) := HBl.out.keep hb5
        have hc5 : w5.heap[w4.heap.size]? = some (.cells #[Value.slice mo bs.length mc, Value.slice co ys.length cc] 28) := by rw [← hw5]; exact heap_alloc_new _ _
        obtain ⟨k0, k1, _, _⟩ := cells2 hc5
        clear hw5 hb5 hc5 HS4 HS64 HBl HB4 HS3 HS6 HB3 HS0 HB0
        have hKc : K ≤ ce := by
          obtain ⟨_, _, e, h1, _⟩ := HS5.out
          cases e
          omega
        have hKc2 : (K : Int) ≤ (ce : Int) := by omega
        have hxc : xs.length ≤ ce := by
          obtain ⟨_, _, e, h1, _⟩ := HS5.out
          cases e
          exact h1
        have hxc2 : (xs.length : Int) ≤ (ce : Int) := by omega
        have C54 : Hid (Calls Tryd.prog 8 #[.slice eo K ce, .slice co ys.length cc] w5 fun e w' => NAns (xs.take K) (.slice co ys.length cc) w5 e w') :=
          new_any (xs.take K) _ _ _ (by rw [List.length_take]; omega) (fun x hx => HO.out.1.2 x (List.mem_of_mem_take hx)) (HS5.out.take K hK) ⟨_, _, _, rfl⟩ (HT.out.keep HB5.out)
        go_wp2_with fail
        rw [HW5.out]
        clear HW5
        refine C54.out.mono ?_
        rintro e w6 ⟨v10, rfl, hbl6, hb6⟩
        obtain ⟨m1, c1, hm, hm1⟩ := hbl6
        subst hm
        have HA6 : Hid (Bl w6 (.slice m1 (blks (xs.take K)).length c1) (blks (xs.take K))) := ⟨m1, c1, rfl, hm1⟩
        clear hm1 C54
        obtain ⟨as1, has1⟩ : ∃ as1, blks (xs.take K) = as1 := ⟨_, rfl⟩
        have HAS1 : Hid (blks (xs.take K) = as1) := has1
        rw [has1] at HA6 ⊢
        clear has1
        obtain ⟨w7, hw7⟩ : ∃ w7, w6.alloc (Obj.cells #[Value.slice m1 as1.length c1, Value.slice co ys.length cc] 28) = w7 := ⟨_, rfl⟩
        have HW7 := Hid.mk' hw7
        have hb7 : Below w6.heap.size w6 w7 := by rw [← hw7]; exact (Below.refl _ _).alloc (Nat.le_refl _) _
        have hc7 : w7.heap[w6.heap.size]? = some (.cells #[Value.slice m1 as1.length c1, Value.slice co ys.length cc] 28) := by rw [← hw7]; exact heap_alloc_new _ _
        have HB57 : Hid (Below w5.heap.size w5 w7) := hb6.trans (hb7.mono hb6.size)
        have HA7 : Hid (Bl w7 (.slice m1 as1.length c1) as1) := HA6.out.keep hb7
        obtain ⟨k07, k17, _, _⟩ := cells2 hc7
        clear hw7 hb7 hc7 hb6 HA6
        obtain ⟨E, hE⟩ : ∃ E, (if ce = K then eo else eo.map (fun x => x.add K)) = E := ⟨_, rfl⟩
        have HE : Hid ((if ce = K then eo else eo.map (fun x => x.add K)) = E) := hE
        have C59 : Hid (Calls Tryd.prog 8 #[.slice E (xs.length - K) (ce - K), .slice co ys.length cc] w7 fun e w' => NAns (xs.drop K) (.slice co ys.length cc) w7 e w') :=
          new_any (xs.drop K) _ _ _ (by rw [List.length_drop]; omega) (fun x hx => HO.out.1.2 x (List.mem_of_mem_drop hx)) (by rw [← HE.out]; exact (HS5.out.keep HB57.out).drop K hK) ⟨_, _, _, rfl⟩ (HT.out.keep (HB5.out.trans (HB57.out.mono HB5.out.size)))
        go_wp2_with fail
        rw [HW7.out]
        clear HW7
        refine C59.out.mono ?_
        rintro e w8 ⟨v11, rfl, hbl8, hb8⟩
        obtain ⟨m2, c2, hm, hm2⟩ := hbl8
        subst hm
        have HA8 : Hid (Bl w8 (.slice m2 (blks (xs.drop K)).length c2) (blks (xs.drop K))) := ⟨m2, c2, rfl, hm2⟩
        clear hm2 C59 hE HE
        obtain ⟨as2, has2⟩ : ∃ as2, blks (xs.drop K) = as2 := ⟨_, rfl⟩
        have HCat : Hid (bs = as1 ++ as2) := by
          show _ = _
          rw [← HBS.out, ← HAS1.out, ← has2]
          exact blks_cut xs K
        rw [has2] at HA8 ⊢
        clear has2
        obtain ⟨wb, hwb⟩ : ∃ wb, w8.alloc (Obj.cells #[Value.slice m2 as2.length c2, Value.slice co ys.length cc] 28) = wb := ⟨_, rfl⟩
        have HWb := Hid.mk' hwb
        have hbb : Below w8.heap.size w8 wb := by rw [← hwb]; exact (Below.refl _ _).alloc (Nat.le_refl _) _
        have hcb : wb.heap[w8.heap.size]? = some (.cells #[Value.slice m2 as2.length c2, Value.slice co ys.length cc] 28) := by rw [← hwb]; exact heap_alloc_new _ _
        have h7b : Below w7.heap.size w7 wb := hb8.trans (hbb.mono hb8.size)
        have h5b : Below w5.heap.size w5 wb := HB57.out.trans (h7b.mono HB57.out.size)
        have HBb : Hid (Below w.heap.size w wb) := HB5.out.trans (h5b.mono HB5.out.size)
        have HC2 : Hid (Bl wb (.slice m2 as2.length c2) as2) := HA8.out.keep hbb
        have HC1 : Hid (Bl wb (.slice m1 as1.length c1) as1) := HA7.out.keep h7b
        have HC0 : Hid (Bl wb (.slice mo bs.length mc) bs) := HBl5.out.keep h5b
        have HSx : Hid (Sl wb (.slice eo xs.length ce) xs) := HS5.out.keep h5b
        have HSy : Hid (Sl wb (.slice co ys.length cc) ys) := HS65.out.keep h5b
        obtain ⟨r0, r1, _, _⟩ := cells2 hcb
        have q0 := cell_step k07 h7b
        have q1 := cell_step k17 h7b
        have p0 := cell_step k0 h5b
        have p1 := cell_step k1 h5b
        have HSz : Hid (Sl wb (.slice bo ys.length cb) ys) := HSb.out.keep HBb.out
        clear hwb hbb hcb hb8 h7b h5b HA8 HA7 HBl5 HS5 HS65 k0 k1 k07 k17 HB57 HB5 hKc hKc2 hxc hxc2 hnil hK hk0 hk1 HSa HSb HT
        have CS : Hid (∀ W, Below wb.heap.size wb W → Calls Tryd.prog 9 #[.slice co ys.length cc, .slice bo ys.length cb] W fun e w' => e = .returned (.bool true) ∧ Below W.heap.size W w') := fun W hb => by
          refine (same_any ys _ _ _ HO.out.2.1 (HSy.out.keep hb) (HSz.out.keep hb) HN6.out).mono ?_
          rintro e w' ⟨rfl, hd⟩
          exact ⟨rfl, below_drewN hd⟩
        have p08 : (w8.alloc (Obj.cells #[Value.slice m2 as2.length c2, Value.slice co ys.length cc] 28)).cell? ⟨w4.heap.size, 0, none⟩ = some (.slice mo bs.length mc) := by rw [HWb.out]; exact p0
        have p18 : (w8.alloc (Obj.cells #[Value.slice m2 as2.length c2, Value.slice co ys.length cc] 28)).cell? ⟨w4.heap.size, 1, none⟩ = some (.slice co ys.length cc) := by rw [HWb.out]; exact p1
        go_wp2_with fail
        rw [HWb.out]
        clear HWb p08 p18
        refine (allowed_any _ _ _).mono ?_
        rintro e w10 ⟨rfl, hb10⟩
        have HB10 := Hid.mk' hb10
        clear hb10
        go_wp2_with fail
        refine (CS.out _ HB10.out).mono ?_
        rintro e w11 ⟨rfl, hb11⟩
        have HB11 : Hid (Below wb.heap.size wb w11) := HB10.out.trans (hb11.mono HB10.out.size)
        have q011 := cell_step q0 HB11.out
        have q111 := cell_step q1 HB11.out
        clear hb11 HB10
        go_wp2_with fail
        refine (allowed_any _ _ _).mono ?_
        rintro e w12 ⟨rfl, hb12⟩
        have HB12 : Hid (Below wb.heap.size wb w12) := HB11.out.trans (hb12.mono HB11.out.size)
        clear hb12 HB11 q011 q111
        go_wp2_with fail
        refine (CS.out _ HB12.out).mono ?_
        rintro e w13 ⟨rfl, hb13⟩
        have HB13 : Hid (Below wb.heap.size wb w13) := HB12.out.trans (hb13.mono HB12.out.size)
        have r013 := cell_step r0 HB13.out
        have r113 := cell_step r1 HB13.out
        clear hb13 HB12
        go_wp2_with fail
        refine (allowed_any _ _ _).mono ?_
        rintro e w14 ⟨rfl, hb14⟩
        have HB14 : Hid (Below wb.heap.size wb w14) := HB13.out.trans (hb14.mono HB13.out.size)
        clear hb14 HB13 r013 r113
        go_wp2_with fail
        refine (CS.out _ HB14.out).mono ?_
        rintro e w15 ⟨rfl, hb15⟩
        have HB15 : Hid (Below wb.heap.size wb w15) := HB14.out.trans (hb15.mono HB14.out.size)
        have p015 := cell_step p0 HB15.out
        have p115 := cell_step p1 HB15.out
        clear hb15 HB14
        go_wp2_with fail
        refine (count_any _ _ bs _ (HC0.out.keep HB15.out)).mono ?_
        rintro e w16 ⟨rfl, hb16⟩
        have HB16 : Hid (Below wb.heap.size wb w16) := HB15.out.trans (hb16.mono HB15.out.size)
        have q016 := cell_step q0 HB16.out
        have q116 := cell_step q1 HB16.out
        clear hb16 HB15 p015 p115
        go_wp2_with fail
        refine (count_any _ _ as1 _ (HC1.out.keep HB16.out)).mono ?_
        rintro e w17 ⟨rfl, hb17⟩
        have HB17 : Hid (Below wb.heap.size wb w17) := HB16.out.trans (hb17.mono HB16.out.size)
        have r017 := cell_step r0 HB17.out
        have r117 := cell_step r1 HB17.out
        clear hb17 HB16 q016 q116
        go_wp2_with fail
        refine (count_any _ _ as2 _ (HC2.out.keep HB17.out)).mono ?_
        rintro e w18 ⟨rfl, hb18⟩
        have HB18 : Hid (Below wb.heap.size wb w18) := HB17.out.trans (hb18.mono HB17.out.size)
        clear hb18 HB17 r017 r117
        have hlen : (bs.length : Int) = (as1.length : Int) + (as2.length : Int) := by rw [HCat.out, List.length_append]; omega
        have hN1 : (as1.length : Int) + (as2.length : Int) ≤ 1048576 := by have := HNl.out; omega
        obtain ⟨n1, hn1⟩ : ∃ n1, as1.length = n1 := ⟨_, rfl⟩
        obtain ⟨n2, hn2⟩ : ∃ n2, as2.length = n2 := ⟨_, rfl⟩
        obtain ⟨N, hN⟩ : ∃ N, bs.length = N := ⟨_, rfl⟩
        have HNN := Hid.mk' hN
        have HN1 := Hid.mk' hn1
        have HN2 := Hid.mk' hn2
        rw [hn1, hn2] at hN1
        rw [hn1, hn2, hN] at hlen
        rw [hn1, hn2, hN]
        rw [hn1] at HC1 q0
        rw [hn2] at HC2 r0
        rw [hN] at HC0 p0
        clear hn1 hn2 hN
        have hl2 : ((N : Int) == (n1 : Int) + (n2 : Int)) = true := by simpa using hlen
        go_wp2_with fail
        have HLen : Hid ((N : Int) = (n1 : Int) + (n2 : Int)) := hlen
        clear hl2 hlen
        go_loopw [15, 16, 17] (fun j i _ wr => ∃ k : Nat, k ≤ xs.length ∧ i = .int .i64 k ∧ j = .int .i64 (blks (xs.take k)).length ∧ Below wb.heap.size wb wr) (fun _ i _ _ => xs.length - (intOf i).toNat)
        case atStart => exact ⟨0, Nat.zero_le _, rfl, rfl, HB18.out⟩
        case round =>
          obtain ⟨k, hk, rfl, rfl, hBr⟩ := hrel
          have HBr : Hid (Below wb.heap.size wb wr) := hBr
          obtain ⟨eo', ce', he', hce, hme, hxe⟩ := HSx.out.keep hBr
          cases he'
          have p0r := cell_step p0 hBr
          have p1r := cell_step p1 hBr
          clear hBr
          by_cases hlt : k < xs.length
          · have HB1 : Hid (blks (xs.take (k + 1)) = blks (xs.take k) ++ blk1 xs[k]) := blks_take xs k hlt
            have HAt : Hid (wordsB xs[k] ≠ [] → bs[(blks (xs.take k)).length]? = some (mkBlk (wordsB xs[k]))) := fun h0 => by
              have := blks_at xs k hlt h0
              rwa [HBS.out] at this
            obtain ⟨b1, o1, he1, c1⟩ := Sl.at hxe hlt
            cases he1
            have HXk : Hid (xs[k].size ≤ 1048576) := HO.out.1.2 _ (List.getElem_mem _)
            have hmN : Hid ((blks (xs.take k)).length ≤ 1048576) := by
              show _ ≤ _
              have h1 := blks_take_len (xs.take k)
              rw [List.length_take] at h1
              omega
            obtain ⟨x, hx⟩ : ∃ x, xs[k] = x := ⟨_, rfl⟩
            rw [hx] at c1 HXk HB1 HAt
            obtain ⟨M, hM⟩ : ∃ M, (blks (xs.take k)).length = M := ⟨_, rfl⟩
            have HM : Hid ((blks (xs.take k)).length = M) := hM
            rw [hM] at hmN HAt ⊢
            have hM2 : (M : Int) ≤ 1048576 := by have := hmN.out; omega
            clear hx hM hxe hce hme
            go_wp2_with fail
            refine (words_any x HXk.out _).mono ?_
            rintro e w19 ⟨v17, rfl, hws, hb19⟩
            have HB19 : Hid (Below wb.heap.size wb w19) := HBr.out.trans (hb19.mono HBr.out.size)
            have p019 := cell_step p0r hb19
            have p119 := cell_step p1r hb19
            clear hb19 p0r p1r
            by_cases hw0 : wordsB x = []
            · have HB2 : Hid (blk1 x = []) := by show _ = _; unfold blk1; rw [if_pos hw0]
              obtain ⟨wo, wc', hwv⟩ := row_shape hws
              subst hwv
              rw [hw0]
              clear hws hw0
              go_wp2_with fail
              go_roundw
              case rel => exact ⟨k + 1, by omega, by go_num, by rw [HB1.out, HB2.out, List.append_nil, HM.out], HB19.out⟩
              case measure => simp [intOf]; omega
            · have HB2 : Hid ((blk1 x).length = 1) := by show _ = _; unfold blk1; rw [if_neg hw0]; rfl
              have hat := HAt.out hw0
              have hMN : M < N := by
                have := (List.getElem?_eq_some_iff.1 hat).1
                have := HNN.out
                omega
              have hMN2 : (M : Int) < (n1 : Int) + (n2 : Int) := by have := HLen.out; omega
              have HWt : Hid (total ((wordsB x).map (·.data.toList)) ≤ 1048577) := words_sum x HXk.out
              have HSw : Hid (Sl w19 v17 (wordsB x)) := hws.sl
              obtain ⟨wo, wc', hwv⟩ := row_shape hws
              subst hwv
              clear hws
              obtain ⟨y, r, hyr⟩ : ∃ y r, wordsB x = y :: r := by cases h : wordsB x with | nil => exact absurd h hw0 | cons y r => exact ⟨y, r, rfl⟩
              rw [hyr] at HSw HWt hat ⊢
              have HPr : Hid (Pr w19 (.agg #[.slice mo N mc, .slice co ys.length cc]) M (mkBlk (y :: r))) := ⟨_, _, bs, rfl, HC0.out.keep HB19.out, hat⟩
              obtain ⟨n0, hn0⟩ : ∃ n0, (y :: r).length = n0 := ⟨_, rfl⟩
              rw [hn0] at HSw ⊢
              have hn01 : 0 < n0 := by rw [← hn0]; exact Nat.succ_pos _
              have hn02 : ((n0 : Int) == 0) = false := int_beq_no (by omega)
              have hn03 : (0 : Int) < (n0 : Int) := by omega
              clear hn0 hat hyr hw0 HAt
              go_wp2_with fail
              refine (blockis_any _ _ y r (mkBlk (y :: r)) _ M ⟨_, _, _, _, rfl⟩ HPr.out rfl HSw.out HWt.out).mono ?_
              rintro e w20 ⟨rfl, hb20⟩
              have HB20 : Hid (Below wb.heap.size wb w20) := HB19.out.trans (hb20.mono HB19.out.size)
              clear hb20
              go_wp2_with fail
              go_roundw
              case rel => exact ⟨k + 1, by omega, by go_num, by rw [HB1.out, List.length_append, HB2.out, HM.out]; go_num, HB20.out⟩
              case measure => simp [intOf]; omega
          · obtain rfl : k = xs.length := by omega
            rw [List.take_length, HBS.out, HNN.out, HLen.out]
            clear hxe hce hme p0r p1r
            go_wp2_with fail
            go_loopw [18] (fun i wr => ∃ k : Nat, k ≤ n1 ∧ i = .int .i64 k ∧ Below wb.heap.size wb wr) (fun i _ => n1 - (intOf i).toNat)
            case atStart => exact ⟨0, Nat.zero_le _, rfl, HBr.out⟩
            case round =>
              clear HBr
              obtain ⟨k, hk, rfl, hbel⟩ := hrel
              have HBr := Hid.mk' hbel
              have p0r := cell_step p0 hbel
              have p1r := cell_step p1 hbel
              have q0r := cell_step q0 hbel
              have q1r := cell_step q1 hbel
              clear hbel
              by_cases hlt : k < n1
              · obtain ⟨x, hx1, hx0, hxm⟩ : ∃ x, as1[k]? = some x ∧ bs[k]? = some x ∧ x ∈ blks xs := by
                  have h1 : k < as1.length := by rw [HN1.out]; exact hlt
                  have h2 : bs[k]? = some as1[k] := by rw [HCat.out, List.getElem?_append_left h1]; simp
                  exact ⟨as1[k], by simp, h2, by rw [HBS.out]; exact List.mem_of_getElem? h2⟩
                have HPc : Hid (Pr wr (.agg #[.slice mo N mc, .slice co ys.length cc]) k x) := ⟨_, _, bs, rfl, HC0.out.keep HBr.out, hx0⟩
                have HPd : Hid (Pr wr (.agg #[.slice m1 n1 c1, .slice co ys.length cc]) k x) := ⟨_, _, as1, rfl, HC1.out.keep HBr.out, hx1⟩
                have HAs : Hid (x.args.long.length ≤ 1048576 ∧ x.args.ops.length ≤ 1048576) := args_small (xs := xs) hxm HO.out.1.2
                clear hx1 hx0 hxm
                go_wp2_with fail
                refine (sameblk_any _ _ x _ k k ⟨_, _, _, _, rfl⟩ ⟨_, _, _, _, rfl⟩ HPc.out HPd.out HAs.out.1 HAs.out.2).mono ?_
                rintro e w21 ⟨rfl, hb21⟩
                have HB21 : Hid (Below wb.heap.size wb w21) := HBr.out.trans (hb21.mono HBr.out.size)
                clear hb21
                go_wp2_with fail
                go_roundw
                case rel => exact ⟨k + 1, by omega, by go_num, HB21.out⟩
                case measure => simp [intOf]; omega
              · obtain rfl : k = n1 := by omega
                clear p0r p1r q0r q1r
                go_wp2_with fail
                go_loopw [19] (fun i wr => ∃ j : Nat, j ≤ n2 ∧ i = .int .i64 j ∧ Below wb.heap.size wb wr) (fun i _ => n2 - (intOf i).toNat)
                case atStart => exact ⟨0, Nat.zero_le _, rfl, HBr.out⟩
                case round =>
                  clear HBr
                  obtain ⟨j, hj, rfl, hbel⟩ := hrel
                  have HBr := Hid.mk' hbel
                  have p0r := cell_step p0 hbel
                  have p1r := cell_step p1 hbel
                  have r0r := cell_step r0 hbel
                  have r1r := cell_step r1 hbel
                  have HFin : Hid (Below w.heap.size w wr) := HBb.out.trans (hbel.mono HBb.out.size)
                  clear hbel
                  by_cases hlt : j < n2
                  · obtain ⟨x, hx1, hx0, hxm⟩ : ∃ x, as2[j]? = some x ∧ bs[k + j]? = some x ∧ x ∈ blks xs := by
                      have h1 : j < as2.length := by rw [HN2.out]; exact hlt
                      have h2 : bs[k + j]? = some as2[j] := by
                        rw [HCat.out, List.getElem?_append_right (by rw [HN1.out]; omega), HN1.out, Nat.add_sub_cancel_left]
                        simp
                      exact ⟨as2[j], by simp, h2, by rw [HBS.out]; exact List.mem_of_getElem? h2⟩
                    have HPc : Hid (Pr wr (.agg #[.slice mo N mc, .slice co ys.length cc]) (k + j) x) := ⟨_, _, bs, rfl, HC0.out.keep HBr.out, hx0⟩
                    have HPd : Hid (Pr wr (.agg #[.slice m2 n2 c2, .slice co ys.length cc]) j x) := ⟨_, _, as2, rfl, HC2.out.keep HBr.out, hx1⟩
                    have HAs : Hid (x.args.long.length ≤ 1048576 ∧ x.args.ops.length ≤ 1048576) := args_small (xs := xs) hxm HO.out.1.2
                    have C14 : Hid (Calls Tryd.prog 14 #[.agg #[.slice mo N mc, .slice co ys.length cc], .int .i64 ((k : Int) + (j : Int)), .agg #[.slice m2 n2 c2, .slice co ys.length cc], .int .i64 j] wr fun e w' => e = .returned (.bool true) ∧ Below wr.heap.size wr w') := by
                      have h := sameblk_any _ _ x _ (k + j) j ⟨_, _, _, _, rfl⟩ ⟨_, _, _, _, rfl⟩ HPc.out HPd.out HAs.out.1 HAs.out.2
                      rw [Int.natCast_add] at h
                      exact h
                    clear hx1 hx0 hxm
                    go_wp2_with fail
                    refine C14.out.mono ?_
                    rintro e w22 ⟨rfl, hb22⟩
                    have HB22 : Hid (Below wb.heap.size wb w22) := HBr.out.trans (hb22.mono HBr.out.size)
                    clear hb22
                    go_wp2_with fail
                    go_roundw
                    case rel => exact ⟨j + 1, by omega, by go_num, HB22.out⟩
                    case measure => simp [intOf]; omega
                  · go_wp2_with fail
                    go_ret
                    exact ⟨rfl, HFin.out⟩
end Go.Proofs.Qxb6628254aDoor
