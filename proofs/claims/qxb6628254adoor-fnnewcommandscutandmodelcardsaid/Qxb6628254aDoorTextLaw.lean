import Derived.Test.Qxb6628254aDoorNew
import Derived.Test.Qxb6628254aDoorSame
import Derived.Laws.CopyOwn
import Derived.Laws.Cover3
import Derived.Deep.CutRange
namespace Go.Proofs.Qxb6628254aDoor
open Go.RowKit

theorem blks_mem {xs : List ByteArray} {b : Blk} (h : b ∈ blks xs) : ∃ s ∈ xs, wordsB s ≠ [] ∧ b = mkBlk (wordsB s) := by
  unfold blks at h
  rw [List.mem_flatMap] at h
  obtain ⟨s, hs, hb⟩ := h
  unfold blk1 at hb
  by_cases h0 : wordsB s = []
  · rw [if_pos h0] at hb; cases hb
  · rw [if_neg h0, List.mem_singleton] at hb; exact ⟨s, hs, h0, hb⟩

theorem row_below {w w' : World} {b n : Nat} {t : TypeId} {f : Nat → Value} (h : w.rowIs b t n f) (hb : Below w.heap.size w w') : w'.rowIs b t n f := h.of_block (hb.block _ h.lt)

theorem texts_sl {w : World} {b : Nat} {bs : List Blk} (h : w.rowIs b 9 bs.length (fun j => if j < bs.length then .string ((bs.map Blk.text).getD j ByteArray.empty) else .string ByteArray.empty)) (hm : bs.length ≤ 1048576) :
    Sl w (.slice (some ⟨b, 0, none⟩) bs.length bs.length) (bs.map Blk.text) := by
  have hl : (bs.map Blk.text).length = bs.length := List.length_map _
  have h2 := strs_of_row (xs := bs.map Blk.text) (w := w) (b := b) (f := fun j => if j < bs.length then .string ((bs.map Blk.text).getD j ByteArray.empty) else .string ByteArray.empty) (by rw [hl]; exact h) (fun j hj => by
    have hj2 : j < bs.length := by rw [← hl]; exact hj
    simp [hj2]) (by rw [hl]; unfold maxLen; omega)
  rw [hl] at h2
  exact h2

theorem args_small {xs : List ByteArray} {b : Blk} (h : b ∈ blks xs) (hx : ∀ x ∈ xs, x.size ≤ 1048576) : b.args.long.length ≤ 1048576 ∧ b.args.ops.length ≤ 1048576 := by
  obtain ⟨s, hs, h0, rfl⟩ := blks_mem h
  have ht := words_sum s (hx s hs)
  obtain ⟨y, r, hyr⟩ : ∃ y r, wordsB s = y :: r := by cases h : wordsB s with | nil => exact absurd h h0 | cons y r => exact ⟨y, r, rfl⟩
  rw [hyr] at ht ⊢
  rw [List.map_cons, total_cons] at ht
  show (argsB r).long.length ≤ _ ∧ (argsB r).ops.length ≤ _
  rw [argsB_eq]
  have h1 := argFold_small (r.take (endAt r))
  have h2 : total (r.map (·.data.toList)) = total ((r.take (endAt r)).map (·.data.toList)) + total ((r.drop (endAt r)).map (·.data.toList)) := by
    rw [← total_append, ← List.map_append, List.take_append_drop]
  have h3 := length_total ((r.drop (endAt r)).map (·.data.toList))
  rw [List.length_map, List.length_drop] at h3
  simp only [List.length_append, List.length_drop]
  omega

set_option maxHeartbeats 1000000 in
theorem text_law (xs ys : List ByteArray) (va vb : Value) (w : World) (hmx : ∀ x ∈ xs, x.size ≤ maxLen) (hmy : ∀ x ∈ ys, x.size ≤ maxLen) (ha : Sl w va xs) (hb : Sl w vb ys) (ht : Tabs w) :
    Calls Tryd.prog 4 #[va, vb] w fun e w' => e = .returned (.bool true) ∧ Below w.heap.size w w' := by
  have HT : Hid (Tabs w) := ht
  have HSa : Hid (Sl w va xs) := ha
  have HSb : Hid (Sl w vb ys) := hb
  have C1 : Hid (Calls Tryd.prog 15 #[va, vb] w fun e w' => Ans (Ok xs ∧ Ok ys) e ∧ w' = w) := zb_any xs ys va vb w hmx hmy ha hb
  clear ht hmx hmy
  obtain ⟨ao, ca, hva, q1⟩ := ha.form
  obtain ⟨bo, cb, hvb, q2⟩ := hb.form
  clear q1 q2
  subst hva hvb
  clear ha hb
  go_enter Tryd.func4, Tryd.ntmps4
  go_wp2_with fail
  refine C1.out.mono ?_
  rintro e w ⟨⟨r, rfl, hr⟩, rfl⟩
  cases r with
  | false =>
    go_wp2_with fail
    go_ret
    exact ⟨rfl, Below.refl _ _⟩
  | true =>
    have HO : Hid (Ok xs ∧ Ok ys) := hr rfl
    have hxl : xs.length ≤ 1048576 := HO.out.1.1
    clear hr
    go_wp2_with fail
    refine (too_any xs ys _ _ _ HO.out.1 HO.out.2 HSa.out HSb.out).mono ?_
    rintro e w ⟨⟨r, rfl, _⟩, rfl⟩
    cases r with
    | true =>
      go_wp2_with fail
      go_ret
      exact ⟨rfl, Below.refl _ _⟩
    | false =>
      have hnil : ∀ w, (binOp .neq 22 (.slice ao xs.length ca) (.slice none 0 0)).run Tryd.prog w = .ok (.bool (!ao.isNone)) w := fun w => run_neq_slice_nil w 22 9 ao xs.length ca Tryd.underlying22
      go_upto_if 26 with fail
      go_cut [0, 5] from 27 to 33 (fun s0 s5 wx => Sl wx s0 xs ∧ Below w.heap.size w wx)
      case first =>
        clear hnil
        cases ao with
        | none =>

          go_wp2_with fail
          go_meet
          case rel => exact ⟨HSa.out, Below.refl _ _⟩
        | some a0 =>
          have hmk := run_make_row' (P := Tryd.prog) 22 9 (.string ByteArray.empty) 16 Tryd.underlying22 Tryd.info9 rfl .i64 .i64 xs.length (by omega) (by omega)
          have hsz9 : (Tryd.prog.info? 9).map (·.size) = some 1 := by kernel_rfl
          obtain ⟨cs, hcs⟩ : ∃ cs, xs.map Value.string = cs := ⟨_, rfl⟩
          have HC : Hid (xs.map Value.string = cs) := hcs
          have HCl : Hid (cs.length = xs.length) := by show _ = _; rw [← hcs]; simp
          have HC1 : Hid (∀ u ∈ cs, u.oneCell' = true) := by intro u hu; rw [← hcs] at hu; obtain ⟨y, _, rfl⟩ := List.mem_map.1 hu; rfl
          have HCp : Hid (0 < cs.length → ∀ j v, cs[j]? = some v → (w.alloc (.cells (madeCells #[.string ByteArray.empty] xs.length) 9)).cell? (a0.add j) = some v) := by
            intro hp j v hj
            obtain ⟨eo, cap, hv, _, _, hx⟩ := HSa.out
            cases hv
            obtain ⟨b, off, e, hc⟩ := hx (by have := HCl.out; omega)
            cases e
            rw [← hcs, List.getElem?_map, Option.map_eq_some_iff] at hj
            obtain ⟨y, hy, rfl⟩ := hj
            rw [Go.WideShapes.add_plain]
            have c := hc j y hy
            exact (World.cell?_alloc_lt _ _ _ (World.block_lt_of_cell? w _ c)).trans c
          clear hcs
          obtain ⟨w2, hcp, HN, HB2⟩ : ∃ w2, (Builtin.copy_ #[22, 22] 3 #[.slice (some ⟨w.heap.size, 0, none⟩) xs.length xs.length, .slice (some a0) xs.length ca]).run Tryd.prog (w.alloc (.cells (madeCells #[.string ByteArray.empty] xs.length) 9)) = .ok (goInt xs.length) w2 ∧
              Hid (Sl w2 (.slice (some ⟨w.heap.size, 0, none⟩) xs.length xs.length) xs) ∧ Hid (Below w.heap.size w w2) := by
            have hr := run_copy_row (P := Tryd.prog) (w.alloc (.cells (madeCells #[.string ByteArray.empty] xs.length) 9)) 22 22 3 9 w.heap.size 0 xs.length xs.length a0 xs.length ca (madeCells #[.string ByteArray.empty] xs.length) 9 cs Tryd.underlying22 hsz9 (heap_alloc_new _ _) (by rw [HCl.out]; exact (Nat.min_self _).symm) (fun j v hj => HCp.out (by have := (List.getElem?_eq_some_iff.1 hj).1; omega) j v hj) (by rw [HCl.out, size_madeCells]; omega) HC1.out
            have e : ((madeCells #[Value.string ByteArray.empty] xs.length).toList.take 0 ++ cs ++ (madeCells #[Value.string ByteArray.empty] xs.length).toList.drop (0 + cs.length)) = cs := by
              rw [List.take_zero, List.nil_append, List.drop_of_length_le (by rw [Array.length_toList, size_madeCells, HCl.out]; omega), List.append_nil]
            rw [e, HCl.out] at hr
            refine ⟨_, hr, ?_, below_setRow ((Below.refl _ _).alloc (Nat.le_refl _) _) (Nat.le_refl _) _⟩
            refine ⟨_, _, rfl, Nat.le_refl _, by unfold maxLen; omega, fun _ => ⟨w.heap.size, 0, rfl, fun j x hj => ?_⟩⟩
            have hj2 : cs[j]? = some (.string x) := by rw [← HC.out, List.getElem?_map, hj]; rfl
            rw [Nat.zero_add]
            have hrow : ((w.alloc (.cells (madeCells #[.string ByteArray.empty] xs.length) 9)).setRow w.heap.size cs.toArray).heap[w.heap.size]? = some (.cells cs.toArray 9 (0, 0)) := setRow_heap _ _ _ _ _ _ (heap_alloc_new _ _)
            unfold World.cell?
            rw [hrow]
            simpa using hj2
          go_wp2_with fail
          go_meet
          case rel => exact ⟨HN.out, HB2.out⟩
      case rest =>
        obtain ⟨hSl, hBel⟩ := hcut
        have HS0 : Hid (Sl wc u0 xs) := hSl
        have HB0 : Hid (Below w.heap.size w wc) := hBel
        obtain ⟨eo, ce, he, q1⟩ := hSl.form
        subst he
        clear q1 hSl hBel
        go_wp2_with fail
        refine (clone_any ys _ _ HO.out.2.1 (HSb.out.keep HB0.out)).mono ?_
        rintro e w3 ⟨v6, rfl, h6, n6, hb3⟩
        obtain ⟨co, cc, h6e, q1⟩ := h6.form
        subst h6e
        clear q1
        have HS6 : Hid (Sl w3 (.slice co ys.length cc) ys) := h6
        have HN6 : Hid (nilV (.slice co ys.length cc) = nilV (.slice bo ys.length cb)) := n6
        have HB3 : Hid (Below w.heap.size w w3) := HB0.out.trans (hb3.mono HB0.out.size)
        have HS3 : Hid (Sl w3 (.slice eo xs.length ce) xs) := HS0.out.keep hb3
        clear h6 n6 hb3
        go_wp2_with fail
        refine (new_any xs _ _ _ HO.out.1.1 HO.out.1.2 HS3.out ⟨_, _, _, rfl⟩ (HT.out.keep HB3.out)).mono ?_
        rintro e w4 ⟨v7, rfl, hbl, hb4⟩
        obtain ⟨mo, mc, hm, hm1⟩ := hbl
        subst hm
        have HBl : Hid (Bl w4 (.slice mo (blks xs).length mc) (blks xs)) := ⟨mo, mc, rfl, hm1⟩
        have HB4 : Hid (Below w.heap.size w w4) := HB3.out.trans (hb4.mono HB3.out.size)
        have HS4 : Hid (Sl w4 (.slice eo xs.length ce) xs) := HS3.out.keep hb4
        have HS64 : Hid (Sl w4 (.slice co ys.length cc) ys) := HS6.out.keep hb4
        clear hm1 hb4
        have HNl : Hid ((blks xs).length ≤ 1048576) := Nat.le_trans (blks_take_len xs) HO.out.1.1
        obtain ⟨bs, hbs⟩ : ∃ bs, blks xs = bs := ⟨_, rfl⟩
        have HBS : Hid (blks xs = bs) := hbs
        rw [hbs] at HBl HNl ⊢
        clear hbs
        obtain ⟨w5, hw5⟩ : ∃ w5, w4.alloc (Obj.cells #[Value.slice mo bs.length mc, Value.slice co ys.length cc] 28) = w5 := ⟨_, rfl⟩
        have HW5 := Hid.mk' hw5
        have hb5 : Below w4.heap.size w4 w5 := by rw [← hw5]; exact (Below.refl _ _).alloc (Nat.le_refl _) _
        have HB5 : Hid (Below w.heap.size w w5) := HB4.out.trans (hb5.mono HB4.out.size)
        have HS5 : Hid (Sl w5 (.slice eo xs.length ce) xs) := HS4.out.keep hb5
        have HS65 : Hid (Sl w5 (.slice co ys.length cc) ys) := HS64.out.keep hb5
        have HBl5 : Hid (Bl w5 (.slice mo bs.length mc) bs) := HBl.out.keep hb5
        have hc5 : w5.heap[w4.heap.size]? = some (.cells #[Value.slice mo bs.length mc, Value.slice co ys.length cc] 28) := by rw [← hw5]; exact heap_alloc_new _ _
        obtain ⟨k0, k1, _, _⟩ := cells2 hc5
        clear hw5 hb5 hc5 HS4 HS64 HBl HB4 HS3 HS6 HB3 HS0 HB0
        go_wp2_with fail
        rw [HW5.out]
        clear HW5
        go_loopw [8, 9] (fun m i wr => ∃ k : Nat, k ≤ xs.length ∧ i = .int .i64 k ∧ m = .int .i64 (blks (xs.take k)).length ∧ Below w5.heap.size w5 wr) (fun _ i _ => xs.length - (intOf i).toNat)
        case atStart => exact ⟨0, Nat.zero_le _, rfl, rfl, Below.refl _ _⟩
        case round =>
          obtain ⟨k, hk, rfl, rfl, hBr⟩ := hrel
          have HBr : Hid (Below w5.heap.size w5 wr) := hBr
          have HSr := Hid.mk' (HS5.out.keep hBr)
          obtain ⟨eo', ce', he', hce, hme, hxe⟩ := HS5.out.keep hBr
          cases he'
          clear hBr
          have hmN : Hid ((blks (xs.take k)).length ≤ 1048576) := by
            show _ ≤ _
            have h1 := blks_take_len (xs.take k)
            rw [List.length_take] at h1
            omega
          by_cases hlt : k < xs.length
          · have HB1 : Hid (blks (xs.take (k + 1)) = blks (xs.take k) ++ blk1 xs[k]) := blks_take xs k hlt
            obtain ⟨b1, o1, he1, c1⟩ := Sl.at hxe hlt
            cases he1
            have HXk : Hid (xs[k].size ≤ 1048576) := HO.out.1.2 _ (List.getElem_mem _)
            obtain ⟨x, hx⟩ : ∃ x, xs[k] = x := ⟨_, rfl⟩
            rw [hx] at c1 HXk HB1
            obtain ⟨M, hM⟩ : ∃ M, (blks (xs.take k)).length = M := ⟨_, rfl⟩
            have HM : Hid ((blks (xs.take k)).length = M) := hM
            rw [hM] at hmN ⊢
            have hM2 : (M : Int) ≤ 1048576 := by have := hmN.out; omega
            clear hx hM hxe hce hme
            go_wp2_with fail
            refine (words_any x HXk.out _).mono ?_
            rintro e w6 ⟨v49, rfl, hws, hb6⟩
            have HB6 : Hid (Below w5.heap.size w5 w6) := HBr.out.trans (hb6.mono HBr.out.size)
            obtain ⟨wo, wc', hwv⟩ := row_shape hws
            subst hwv
            clear hws hb6
            by_cases hw0 : wordsB x = []
            · have HB2 : Hid (blk1 x = []) := by show _ = _; unfold blk1; rw [if_pos hw0]
              rw [hw0]
              go_wp2_with fail
              go_roundw
              case rel => exact ⟨k + 1, by omega, by go_num, by rw [HB1.out, HB2.out, List.append_nil, HM.out], HB6.out⟩
              case measure => simp [intOf]; omega
            · have HB2 : Hid ((blk1 x).length = 1) := by show _ = _; unfold blk1; rw [if_neg hw0]; rfl
              have hp : (0 : Int) < ((wordsB x).length : Int) := by
                have : 0 < (wordsB x).length := List.length_pos_iff.2 hw0
                omega
              obtain ⟨n1, hn1⟩ : ∃ n1, (wordsB x).length = n1 := ⟨_, rfl⟩
              rw [hn1] at hp ⊢
              have hp2 : 0 < n1 := by omega
              clear hn1
              go_wp2_with fail
              go_roundw
              case rel => exact ⟨k + 1, by omega, by go_num, by rw [HB1.out, List.length_append, HB2.out, HM.out]; go_num, HB6.out⟩
              case measure => simp [intOf]; omega
          · obtain rfl : k = xs.length := by omega
            rw [List.take_length, HBS.out]
            clear hxe hce hme hmN
            have k0r := cell_step k0 HBr.out
            have k1r := cell_step k1 HBr.out
            have HBlr : Hid (Bl wr (.slice mo bs.length mc) bs) := HBl5.out.keep HBr.out
            have hNr : (bs.length : Int) ≤ 1048576 := by have := HNl.out; omega
            go_wp2_with fail
            refine (count_any _ _ bs _ HBlr.out).mono ?_
            rintro e w7 ⟨rfl, hb7⟩
            have HB7 : Hid (Below w5.heap.size w5 w7) := HBr.out.trans (hb7.mono HBr.out.size)
            have k07 := cell_step k0r hb7
            have k17 := cell_step k1r hb7
            have HBl7 : Hid (Bl w7 (.slice mo bs.length mc) bs) := HBlr.out.keep hb7
            clear hb7 HBlr k0r k1r HBr HSr
            go_wp2_with fail
            refine (allowed_any _ _ _).mono ?_
            rintro e w8 ⟨rfl, hb8⟩
            have HB8 : Hid (Below w5.heap.size w5 w8) := HB7.out.trans (hb8.mono HB7.out.size)
            have HB08 : Hid (Below w.heap.size w w8) := HB5.out.trans (HB8.out.mono HB5.out.size)
            have k08 := cell_step k07 hb8
            have k18 := cell_step k17 hb8
            have HBl8 : Hid (Bl w8 (.slice mo bs.length mc) bs) := HBl7.out.keep hb8
            clear hb8 HBl7 k07 k17 HB7
            go_wp2_with fail
            refine (same_any ys _ _ _ HO.out.2.1 (HS65.out.keep HB8.out) (HSb.out.keep HB08.out) HN6.out).mono ?_
            rintro e w9 ⟨rfl, hd9⟩
            have hb9 := below_drewN hd9
            have HB9 : Hid (Below w.heap.size w w9) := HB08.out.trans (hb9.mono HB08.out.size)
            have k09 := cell_step k08 hb9
            have k19 := cell_step k18 hb9
            have HBl9 : Hid (Bl w9 (.slice mo bs.length mc) bs) := HBl8.out.keep hb9
            clear hb9 hd9 HBl8 k08 k18 HB8 HB08 HS65 HS5 HB5 HBl5 k0 k1
            have hmk := run_make_row' (P := Tryd.prog) 22 9 (.string ByteArray.empty) 16 Tryd.underlying22 Tryd.info9 rfl .i64 .i64 bs.length (by omega) (by omega)
            have hst : Hid ((w9.alloc (.cells (madeCells #[.string ByteArray.empty] bs.length) 9)).rowIs w9.heap.size 9 bs.length (fun j => if j < 0 then .string ((bs.map Blk.text).getD j ByteArray.empty) else .string ByteArray.empty) ∧ Below w9.heap.size w9 (w9.alloc (.cells (madeCells #[.string ByteArray.empty] bs.length) 9))) :=
              ⟨(World.rowIs_made w9 _ bs.length 9).congr (fun i _ => by simp), (Below.refl _ _).alloc (Nat.le_refl _) _⟩
            go_wp2_with fail
            go_loopw [12] (fun i wr => ∃ k : Nat, k ≤ bs.length ∧ i = .int .i64 k ∧ wr.rowIs w9.heap.size 9 bs.length (fun j => if j < k then .string ((bs.map Blk.text).getD j ByteArray.empty) else .string ByteArray.empty) ∧ Below w9.heap.size w9 wr) (fun i _ => bs.length - (intOf i).toNat)
            case atStart => exact ⟨0, Nat.zero_le _, rfl, hst.out⟩
            case round =>
              clear hst
              obtain ⟨k, hk, rfl, hrow, hbel⟩ := hrel
              have HRow := Hid.mk' hrow
              have HBr := Hid.mk' hbel
              clear hrow hbel
              have k0r := cell_step k09 HBr.out
              have k1r := cell_step k19 HBr.out
              have HBlr : Hid (Bl wr (.slice mo bs.length mc) bs) := HBl9.out.keep HBr.out
              by_cases hlt : k < bs.length
              · obtain ⟨x, hx⟩ : ∃ x, bs[k] = x := ⟨_, rfl⟩
                have HXg : Hid ((bs.map Blk.text).getD k ByteArray.empty = x.text) := by show _ = _; simp [hlt, hx]
                have HP : Hid (Pr wr (.agg #[.slice mo bs.length mc, .slice co ys.length cc]) k x) := ⟨_, _, bs, rfl, HBlr.out, by rw [← hx]; simp⟩
                obtain ⟨s, hs, hs0, hsx⟩ := blks_mem (xs := xs) (b := x) (by rw [HBS.out, ← hx]; exact List.getElem_mem _)
                have HSs : Hid (s.size ≤ 1048576) := HO.out.1.2 _ hs
                have HTx : Hid (x.text = joinB (wordsB s)) := by rw [hsx]; rfl
                have HTs : Hid (x.text.size ≤ 1048576) := by show _ ≤ _; rw [HTx.out]; exact Nat.le_trans (joinB_size s) HSs.out
                have HTw : Hid (wordsB x.text = wordsB s) := by show _ = _; rw [HTx.out, wordsB_joinB]
                have HWt : Hid (total ((wordsB s).map (·.data.toList)) ≤ 1048577) := words_sum s HSs.out
                obtain ⟨y, r, hyr⟩ : ∃ y r, wordsB s = y :: r := by cases h : wordsB s with | nil => exact absurd h hs0 | cons y r => exact ⟨y, r, rfl⟩
                have HPx : Hid (x.prog = progB y) := by show _ = _; rw [hsx, hyr]; rfl
                rw [hyr] at HTx HTw HWt
                have HYs : Hid (y.size ≤ 1048576) := by
                  show _ ≤ _
                  have := HWt.out
                  rw [List.map_cons, total_cons, data_len] at this
                  omega
                obtain ⟨T, hT⟩ : ∃ T, x.text = T := ⟨_, rfl⟩
                obtain ⟨p, hp⟩ : ∃ p, x.prog = p := ⟨_, rfl⟩
                rw [hT] at HTx HTs HTw HXg
                rw [hp] at HPx
                have C16 : Hid (Calls Tryd.prog 16 #[.agg #[.slice mo bs.length mc, .slice co ys.length cc], .int .i64 k] wr fun e w' => e = .returned (.string T) ∧ Below wr.heap.size wr w') := by rw [← hT]; exact text_pr _ _ _ HP.out
                have C18 : Hid (∀ W, Below wr.heap.size wr W → Calls Tryd.prog 18 #[.agg #[.slice mo bs.length mc, .slice co ys.length cc], .int .i64 k] W fun e w' => e = .returned (.string p) ∧ Below W.heap.size W w') := fun W hb => by rw [← hp]; exact prog_pr _ _ _ (HP.out.keep hb)
                clear hx hs hs0 hsx hyr hT hp
                go_wp2_with fail
                refine C16.out.mono ?_
                rintro e w10 ⟨rfl, hb10⟩
                go_wp2_with fail
                refine (words_any T HTs.out _).mono ?_
                rintro e w11 ⟨v14, rfl, hws, hb11⟩
                rw [HTw.out] at hws
                have HS11 : Hid (Sl w11 v14 (y :: r)) := hws.sl
                obtain ⟨vo', vc', hv14, hvc1, hvc2, hvx⟩ := hws.sl
                obtain ⟨b4, o4, he4, c4⟩ := hvx (by simp)
                have c40 := c4 0 y rfl
                rw [Nat.add_zero] at c40
                subst hv14
                subst he4
                obtain ⟨n1, hn1⟩ : ∃ n1, (y :: r).length = n1 := ⟨_, rfl⟩
                rw [hn1] at HS11 ⊢
                have hn2 : 0 < n1 := by rw [← hn1]; exact Nat.succ_pos _
                have hn3 : (0 : Int) < (n1 : Int) := by omega
                have hn4 : ((n1 : Int) == 0) = false := int_beq_no (by omega)
                have HB11 : Hid (Below wr.heap.size wr w11) := hb10.trans (hb11.mono hb10.size)
                clear hws hvx c4 hb10 hb11 hvc1 hvc2 hn1
                go_wp2_with fail
                refine (join_any (y :: r) _ _ (by have h1 := length_total ((y :: r).map (·.data.toList)); rw [List.length_map] at h1; have := HWt.out; omega) (by have := HWt.out; omega) HS11.out).mono ?_
                rintro e w12 ⟨rfl, hb12⟩
                rw [← HTx.out]
                have HB12 : Hid (Below wr.heap.size wr w12) := HB11.out.trans (hb12.mono HB11.out.size)
                have c42 := cell_step c40 hb12
                have k012 := cell_step k0r HB12.out
                have k112 := cell_step k1r HB12.out
                clear hb12 c40
                go_wp2_with fail
                refine (C18.out _ HB12.out).mono ?_
                rintro e w13 ⟨rfl, hb13⟩
                have HB13 : Hid (Below wr.heap.size wr w13) := HB12.out.trans (hb13.mono HB12.out.size)
                have c43 := cell_step c42 hb13
                clear hb13 c42 k012 k112
                have HPy := HPx.out
                subst HPy
                go_wp2_with fail
                refine (noslash_any (progB y) (Nat.le_trans (progB_size y) HYs.out) (fun i h => progB_noslash y i h) _).mono ?_
                rintro e w13 ⟨rfl, rfl⟩
                go_wp2_with fail
                refine (suffix_any y HYs.out _).mono ?_
                rintro e w13 ⟨rfl, rfl⟩
                have hrow := row_below HRow.out HB13.out
                have d1 := hrow.cell hlt
                have d2 := hrow.frozen k
                have hz := hrow.lt
                rw [if_neg (Nat.lt_irrefl k)] at d1
                have HB09 : Hid (Below w9.heap.size w9 w13) := HBr.out.trans (HB13.out.mono HBr.out.size)
                have HN : Hid ((w13.setCell ⟨w9.heap.size, k, none⟩ (.string T)).rowIs w9.heap.size 9 bs.length (fun j => if j < k + 1 then .string ((bs.map Blk.text).getD j ByteArray.empty) else .string ByteArray.empty) ∧ Below w9.heap.size w9 (w13.setCell ⟨w9.heap.size, k, none⟩ (.string T))) := by
                  refine ⟨(hrow.set k _).congr (fun i hi => ?_), HB09.out.setCell (Nat.le_refl _) _⟩
                  by_cases e : i = k
                  · subst e; rw [if_pos rfl, if_pos (Nat.lt_succ_self _), HXg.out]
                  · have e2 : (i < k + 1) = (i < k) := by apply propext; omega
                    simp only [e, e2, if_false]
                clear hrow
                go_wp2_with fail
                go_roundw
                case rel => exact ⟨k + 1, by omega, by go_num, HN.out⟩
                case measure => simp [intOf]; omega
              · obtain rfl : k = bs.length := by omega
                have HSt : Hid (Sl wr (.slice (some ⟨w9.heap.size, 0, none⟩) bs.length bs.length) (bs.map Blk.text)) := texts_sl HRow.out HNl.out
                have HB0r : Hid (Below w.heap.size w wr) := HB9.out.trans (HBr.out.mono HB9.out.size)
                have HLt : Hid ((bs.map Blk.text).length ≤ 1048576 ∧ ∀ x ∈ bs.map Blk.text, x.size ≤ 1048576) := by
                  refine ⟨by rw [List.length_map]; exact HNl.out, fun x hx => ?_⟩
                  obtain ⟨b, hb, rfl⟩ := List.mem_map.1 hx
                  rw [← HBS.out] at hb
                  obtain ⟨s, hs, _, rfl⟩ := blks_mem hb
                  exact Nat.le_trans (joinB_size s) (HO.out.1.2 _ hs)
                go_wp2_with fail
                have CN : Hid (Calls Tryd.prog 8 #[.slice (some ⟨w9.heap.size, 0, none⟩) bs.length bs.length, .slice none 0 0] wr fun e w' => ∃ vb, e = .returned (.agg #[vb, .slice none 0 0]) ∧ Bl w' vb bs ∧ Below wr.heap.size wr w') := by
                  have hbt : blks (bs.map Blk.text) = bs := by have := blks_text xs; rw [HBS.out] at this; exact this
                  refine (new_any (bs.map Blk.text) _ _ _ HLt.out.1 HLt.out.2 HSt.out ⟨_, _, _, rfl⟩ (HT.out.keep HB0r.out)).mono ?_
                  rintro e w14 ⟨v16, rfl, hbl, hb14⟩
                  rw [hbt] at hbl
                  exact ⟨v16, rfl, hbl, hb14⟩
                refine CN.out.mono ?_
                rintro e w14 ⟨v16, rfl, hbl, hb14⟩
                obtain ⟨no, nc, hn, hn1⟩ := hbl
                subst hn
                have HBl14 : Hid (Bl w14 (.slice no bs.length nc) bs) := ⟨no, nc, rfl, hn1⟩
                obtain ⟨w15, hw15⟩ : ∃ w15, w14.alloc (Obj.cells #[Value.slice no bs.length nc, Value.slice none 0 0] 28) = w15 := ⟨_, rfl⟩
                have HW15 := Hid.mk' hw15
                have hb15 : Below w14.heap.size w14 w15 := by rw [← hw15]; exact (Below.refl _ _).alloc (Nat.le_refl _) _
                have hr15 : Below wr.heap.size wr w15 := hb14.trans (hb15.mono hb14.size)
                have HB15 : Hid (Below w.heap.size w w15) := HB0r.out.trans (hr15.mono HB0r.out.size)
                have HD15 : Hid (Bl w15 (.slice no bs.length nc) bs) := HBl14.out.keep hb15
                have HC15 : Hid (Bl w15 (.slice mo bs.length mc) bs) := HBlr.out.keep hr15
                have hc15 : w15.heap[w14.heap.size]? = some (.cells #[Value.slice no bs.length nc, Value.slice none 0 0] 28) := by rw [← hw15]; exact heap_alloc_new _ _
                obtain ⟨l0, l1, _, _⟩ := cells2 hc15
                have k015 := cell_step k0r hr15
                have k115 := cell_step k1r hr15
                have hnil2 : ∀ w, (binOp .neq 22 (.slice none 0 0) (.slice none 0 0)).run Tryd.prog w = .ok (.bool false) w := fun w => run_neq_slice_nil w 22 9 none 0 0 Tryd.underlying22
                clear hw15 hb15 hr15 hc15 hb14 hn1 k0r k1r k09 k19 CN HSt HBlr HRow HBr HBl14 hnil
                go_wp2_with fail
                rw [HW15.out]
                clear HW15
                refine (count_any _ _ bs _ HD15.out).mono ?_
                rintro e w16 ⟨rfl, hb16⟩
                have l016 := cell_step l0 hb16
                have l116 := cell_step l1 hb16
                have HB16 : Hid (Below w15.heap.size w15 w16) := hb16
                clear hb16
                go_wp2_with fail
                refine (allowed_any _ _ _).mono ?_
                rintro e w17 ⟨rfl, hb17⟩
                have HB17 : Hid (Below w15.heap.size w15 w17) := HB16.out.trans (hb17.mono HB16.out.size)
                clear hb17 l016 l116
                go_wp2_with fail
                go_loopw [17] (fun i wr => ∃ k : Nat, k ≤ bs.length ∧ i = .int .i64 k ∧ Below w15.heap.size w15 wr) (fun i _ => bs.length - (intOf i).toNat)
                case atStart => exact ⟨0, Nat.zero_le _, rfl, HB17.out⟩
                case round =>
                  obtain ⟨k, hk, rfl, hbel⟩ := hrel
                  have HBr := Hid.mk' hbel
                  have k0r := cell_step k015 hbel
                  have k1r := cell_step k115 hbel
                  have l0r := cell_step l0 hbel
                  have l1r := cell_step l1 hbel
                  have HFin : Hid (Below w.heap.size w wr) := HB15.out.trans (hbel.mono HB15.out.size)
                  clear hbel
                  by_cases hlt : k < bs.length
                  · have HPc : Hid (Pr wr (.agg #[.slice mo bs.length mc, .slice co ys.length cc]) k bs[k]) := ⟨_, _, bs, rfl, HC15.out.keep HBr.out, by simp⟩
                    have HPd : Hid (Pr wr (.agg #[.slice no bs.length nc, .slice none 0 0]) k bs[k]) := ⟨_, _, bs, rfl, HD15.out.keep HBr.out, by simp⟩
                    have HAs : Hid (bs[k].args.long.length ≤ 1048576 ∧ bs[k].args.ops.length ≤ 1048576) := args_small (xs := xs) (by rw [HBS.out]; exact List.getElem_mem _) HO.out.1.2
                    go_wp2_with fail
                    refine (sameblk_any _ _ bs[k] _ k k ⟨_, _, _, _, rfl⟩ ⟨_, _, _, _, rfl⟩ HPc.out HPd.out HAs.out.1 HAs.out.2).mono ?_
                    rintro e w18 ⟨rfl, hb18⟩
                    have HB18 : Hid (Below w15.heap.size w15 w18) := HBr.out.trans (hb18.mono HBr.out.size)
                    clear hb18
                    go_wp2_with fail
                    go_roundw
                    case rel => exact ⟨k + 1, by omega, by go_num, HB18.out⟩
                    case measure => simp [intOf]; omega
                  · go_wp2_with fail
                    go_ret
                    exact ⟨rfl, HFin.out⟩
end Go.Proofs.Qxb6628254aDoor
