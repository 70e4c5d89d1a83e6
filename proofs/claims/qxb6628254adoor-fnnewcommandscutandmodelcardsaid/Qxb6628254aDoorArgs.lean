import Derived.Test.Qxb6628254aDoorArgsP
namespace Go.Proofs.Qxb6628254aDoor
open Go.RowKit

/-- the three slices of the arguments, side by side -/
structure AInv (w wr : World) (vf vl vo : Value) (a : Args) : Prop where
  f : Byts wr w.heap.size vf a.flags.data.toList
  l : Strs wr w.heap.size vl a.long
  o : Strs wr w.heap.size vo a.ops
  ap : Apart vl vo
  bel : Below w.heap.size w wr

theorem AInv.long {w wr w' : World} {vf vl vo v' : Value} {a : Args} {x : ByteArray} {o : Obj} (h : AInv w wr vf vl vo a)
    (hown : w'.ownsRow w.heap.size 9 1 v' (a.long.length + 1) (a.long.map Value.string ++ [.string x])) (hg : (wr.alloc o).grownBy w' vl.ownBlock)
    (hat : v'.ownBlock = vl.ownBlock ∨ v'.ownBlock = some (wr.heap.size + 1)) : AInv w w' vf v' vo ⟨a.flags, a.long ++ [x], a.ops⟩ := by
  have hs := h.l.step h.bel (Nat.le_refl _) hown hg
  have hfl : Apart vf vl := apart_types (by decide) h.f h.l
  refine ⟨hfl.keep (h.f.alloc o) hg, hs.1, h.ap.symm.keep (h.o.alloc o) hg, ?_, hs.2⟩
  exact (h.ap.symm.after hat (fun g hg => by have := (h.o.lt g hg).2; simp; omega)).symm

theorem AInv.op {w wr w' : World} {vf vl vo v' : Value} {a : Args} {x : ByteArray} {o : Obj} (h : AInv w wr vf vl vo a)
    (hown : w'.ownsRow w.heap.size 9 1 v' (a.ops.length + 1) (a.ops.map Value.string ++ [.string x])) (hg : (wr.alloc o).grownBy w' vo.ownBlock)
    (hat : v'.ownBlock = vo.ownBlock ∨ v'.ownBlock = some (wr.heap.size + 1)) : AInv w w' vf vl v' ⟨a.flags, a.long, a.ops ++ [x]⟩ := by
  have hs := h.o.step h.bel (Nat.le_refl _) hown hg
  have hfo : Apart vf vo := apart_types (by decide) h.f h.o
  refine ⟨hfo.keep (h.f.alloc o) hg, h.ap.keep (h.l.alloc o) hg, hs.1, ?_, hs.2⟩
  exact h.ap.after hat (fun g hg => by have := (h.l.lt g hg).2; simp; omega)

theorem AInv.flag {w wr w' : World} {vf vl vo v' : Value} {a : Args} {x : ByteArray} (h : AInv w wr vf vl vo a)
    {n : Nat} (hn : n = a.flags.size + x.size)
    (hown : w'.ownsRow w.heap.size 5 1 v' n (bcells a.flags.data.toList ++ Lib.strCells x)) (hg : wr.grownBy w' vf.ownBlock) : AInv w w' v' vl vo ⟨a.flags ++ x, a.long, a.ops⟩ := by
  have hs := h.f.step (m := x.data.toList) h.bel h.bel.size (by rw [data_len x, data_len, ← hn]; exact hown) hg
  have hlf : Apart vl vf := apart_types (by decide) h.l h.f
  have hof : Apart vo vf := apart_types (by decide) h.o h.f
  refine ⟨?_, hlf.keep h.l hg, hof.keep h.o hg, h.ap, hs.2⟩
  have e : (a.flags ++ x).data.toList = a.flags.data.toList ++ x.data.toList := by simp
  rw [e]
  exact hs.1

/-- what zzArgs hands back -/
def ZAns (a : Args) (w : World) (e : Ending) (w' : World) : Prop := ∃ vl vo, e = .returned (.tuple #[.string a.flags, vl, vo]) ∧ Sl w' vl a.long ∧ Sl w' vo a.ops ∧ Below w.heap.size w w'

theorem argsB_eq (xs : List ByteArray) : argsB xs = ⟨(argFold (xs.take (endAt xs))).flags, (argFold (xs.take (endAt xs))).long, (argFold (xs.take (endAt xs))).ops ++ xs.drop (endAt xs + 1)⟩ := rfl

theorem drop_take_succ (xs : List ByteArray) (E k : Nat) (hE : E + 1 ≤ k) (hk : k < xs.length) : (xs.drop (E + 1)).take (k + 1 - (E + 1)) = (xs.drop (E + 1)).take (k - (E + 1)) ++ [xs[k]] := by
  rw [show k + 1 - (E + 1) = (k - (E + 1)) + 1 by omega, List.take_succ_eq_append_getElem (by rw [List.length_drop]; omega)]
  congr 2
  rw [List.getElem_drop]
  congr 1
  omega

set_option maxHeartbeats 1000000 in
theorem zargs_found (xs : List ByteArray) (va : Value) (w : World) (hl : xs.length ≤ 1048576) (ht : total (xs.map (·.data.toList)) ≤ 2097152) (ha : Sl w va xs) (hE : endAt xs < xs.length) :
    Calls Tryd.prog 28 #[va] w fun e w' => ZAns (argsB xs) w e w' := by
  obtain ⟨i0, hi0, hz0, hz1, hz2⟩ := info_parts Tryd.info9
  have HI0 : Hid (Tryd.prog.info? 9 = some i0 ∧ i0.zero = some (.string ByteArray.empty) ∧ i0.size = 1 ∧ i0.bytes = 16) := ⟨hi0, hz0, hz1, hz2⟩
  clear hi0 hz0 hz1 hz2
  obtain ⟨j0, hi0, hz0, hz1, hz2⟩ := info_parts Tryd.info5
  have HJ0 : Hid (Tryd.prog.info? 5 = some j0 ∧ j0.zero = some (.int .u8 0) ∧ j0.size = 1 ∧ j0.bytes = 1) := ⟨hi0, hz0, hz1, hz2⟩
  clear hi0 hz0 hz1 hz2
  obtain ⟨ao, ca, rfl, hca, hma, hxa⟩ := ha
  have hEl := endAt_le xs
  have hbef := endAt_before xs
  have hat0 := endAt_at xs
  obtain ⟨E, hEe⟩ : ∃ E, endAt xs = E := ⟨_, rfl⟩
  have HE : Hid (endAt xs = E) := hEe
  have HBf : Hid (∀ k, k < E → ∀ h : k < xs.length, isDD xs[k] = false) := by
    show ∀ k, _
    rw [← hEe]
    exact hbef
  have HAt : Hid (∀ h : E < xs.length, isDD (xs[E]) = true) := by
    show ∀ h, _
    rw [← hEe]
    exact hat0
  rw [hEe] at hEl hE
  clear hEe hbef hat0
  go_enter Tryd.func28, Tryd.ntmps28
  go_wp2_with fail
  go_loop [5, 6] (fun e i => ∃ k : Nat, k ≤ E ∧ i = .int .i64 k ∧ e = .int .i64 xs.length) (fun _ i => xs.length - (intOf i).toNat)
  case atStart => exact ⟨0, Nat.zero_le _, rfl, rfl⟩
  case round =>
    obtain ⟨k, hk, rfl, rfl⟩ := hrel
    by_cases hlt : k < E
    · have hkl : k < xs.length := by omega
      obtain ⟨b1, o1, rfl, c1⟩ := Sl.at hxa hkl
      have hd := HBf.out k hlt hkl
      obtain ⟨x, hx⟩ : ∃ x, xs[k] = x := ⟨_, rfl⟩
      rw [hx] at c1 hd
      rw [← isDD_walk] at hd
      clear hx hxa
      go_wp2_with fail
      go_round
      case rel => exact ⟨k + 1, by omega, by go_num, rfl⟩
      case measure => simp [intOf]; omega
    · obtain rfl : E = k := by omega
      obtain ⟨b1, o1, he, c1⟩ := Sl.at hxa hE
      have hd := HAt.out hE
      obtain ⟨x, hx⟩ : ∃ x, xs[E] = x := ⟨_, rfl⟩
      rw [hx] at c1 hd
      rw [← isDD_walk] at hd
      subst he
      clear hx
      go_wp2_with fail
      clear hd c1
      go_loopw [7, 8, 9, 10] (fun vf vl vo i wr => ∃ k : Nat, k ≤ E ∧ i = .int .i64 k ∧ AInv w wr vf vl vo (argFold (xs.take k))) (fun _ _ _ i _ => E - (intOf i).toNat)
      case atStart => exact ⟨0, Nat.zero_le _, rfl, by rw [List.take_zero]; exact ⟨World.ownsRow_nil _ _ _ _, World.ownsRow_nil _ _ _ _, World.ownsRow_nil _ _ _ _, apart_nil _, Below.refl _ _⟩⟩
      case round =>
        obtain ⟨k, hk, rfl, hV⟩ := hrel
        have hsm := argFold_take_small xs k
        obtain ⟨a, ha⟩ : ∃ a, argFold (xs.take k) = a := ⟨_, rfl⟩
        rw [ha] at hV hsm
        have HA : Hid (argFold (xs.take k) = a) := ha
        have HV : Hid (AInv w wr u7 u8 u9 a) := hV
        have HB : Hid (a.flags.size + a.long.length + a.ops.length ≤ 2097152) := Nat.le_trans hsm ht
        have hzr : Hid (w.heap.size ≤ wr.heap.size) := hV.bel.size
        clear hV hsm ha
        by_cases hlt : k < E
        · have hkl : k < xs.length := by omega
          obtain ⟨b1, o1, he1, c1⟩ := Sl.at hxa hkl
          cases he1
          have HXs : Hid (xs[k].size ≤ 2097152) := Nat.le_trans (size_total xs k hkl) ht
          obtain ⟨x, hx⟩ : ∃ x, xs[k] = x := ⟨_, rfl⟩
          rw [hx] at c1 HXs
          have HX : Hid (xs[k] = x) := hx
          have c2 := (HV.out.bel.cell (World.block_lt_of_cell? w _ c1)).trans c1
          have hxs : (x.size : Int) ≤ 2097152 := by have := HXs.out; omega
          clear hx hxa c1
          by_cases z0 : x.size = 0
          · have q1 : ¬ (2 : Int) ≤ (x.size : Int) := by omega
            have q2 : ¬ (1 : Int) ≤ (x.size : Int) := by omega
            have P1 : pre1 x = false := by cases h : pre1 x with | false => rfl | true => exact absurd ((pre1_iff x).1 h) (by rintro ⟨h, e⟩; omega)
            have P2 : pre2 x = false := by cases h : pre2 x with | false => rfl | true => exact absurd ((pre2_iff x).1 h) (by rintro ⟨h, e, e'⟩; omega)
            clear z0
            have HS : Hid (argFold (xs.take (k + 1)) = ⟨a.flags, a.long, a.ops ++ [x]⟩) := by show _ = _; rw [argFold_take xs k hkl, HX.out, HA.out]; exact step_op _ _ P2 P1
            go_wp2_with (at_builtin; refine wpList_append_own_at _ rfl _ _ 22 rfl w.heap.size 9 i0 (.string ByteArray.empty) 1 16 Tryd.underlying22 HI0.out.1 HI0.out.2.1 HI0.out.2.2.1 HI0.out.2.2.2 rfl (by decide) _ _ _ rfl (HV.out.o.alloc _) ⟨wr.heap.size, 0, none⟩ 1 1 [.string x] rfl rfl (cell_one_new _ _ _) (by intro u hu; simp at hu; subst hu; rfl) (by have := HB.out; unfold maxLen; omega) (by have := HB.out; omega) (by have := hzr.out; simp; omega) ?_)
            intro v' w3 hown hgrow _ hat
            have HN : Hid (AInv w w3 u7 u8 v' ⟨a.flags, a.long, a.ops ++ [x]⟩) := HV.out.op hown hgrow hat
            clear hown hgrow hat
            go_wp2_with fail
            go_roundw
            case rel => exact ⟨k + 1, by omega, by go_num, by rw [HS.out]; exact HN.out⟩
            case measure => simp [intOf]; omega
          · have z1 : 0 < x.size := by omega
            by_cases z2 : x.size = 1
            · have q1 : ¬ (2 : Int) ≤ (x.size : Int) := by omega
              have q2 : (1 : Int) ≤ (x.size : Int) := by omega
              by_cases y0 : x[0].toNat = 45
              · have P1 : pre1 x = true := (pre1_iff x).2 ⟨z1, y0⟩
                have P2 : pre2 x = false := by cases h : pre2 x with | false => rfl | true => exact absurd ((pre2_iff x).1 h) (by rintro ⟨h, e, e'⟩; omega)
                have u0 : x[0] = 45 := UInt8.toNat_inj.1 y0
                clear y0 z2
                have HS : Hid (argFold (xs.take (k + 1)) = ⟨a.flags ++ x.extract 1 x.size, a.long, a.ops⟩) := by show _ = _; rw [argFold_take xs k hkl, HX.out, HA.out]; exact step_flag _ _ P2 P1
                go_wp2_with (at_builtin; refine Lib.wpList_append_own_string _ rfl _ _ 50 9 rfl w.heap.size 5 j0 Tryd.underlying50 Tryd.underlying9 HJ0.out.1 HJ0.out.2.1 HJ0.out.2.2.1 HJ0.out.2.2.2 _ _ _ rfl HV.out.f (x.extract 1 x.size) rfl (by have := HB.out; have := HXs.out; rw [data_len, ByteArray.size_extract]; unfold maxLen; omega) (by have := HB.out; have := HXs.out; rw [data_len, ByteArray.size_extract]; omega) hzr.out ?_)
                intro v' w3 hown hgrow _
                have HN : Hid (AInv w w3 v' u8 u9 ⟨a.flags ++ x.extract 1 x.size, a.long, a.ops⟩) := HV.out.flag (by rw [ByteArray.size_extract]; omega) hown hgrow
                clear hown hgrow
                go_wp2_with fail
                go_roundw
                case rel => exact ⟨k + 1, by omega, by go_num, by rw [HS.out]; exact HN.out⟩
                case measure => simp [intOf]; omega
              · have P1 : pre1 x = false := by cases h : pre1 x with | false => rfl | true => exact absurd ((pre1_iff x).1 h) (by rintro ⟨h, e⟩; omega)
                have P2 : pre2 x = false := by cases h : pre2 x with | false => rfl | true => exact absurd ((pre2_iff x).1 h) (by rintro ⟨h, e, e'⟩; omega)
                have u0 : ((x[0].toNat : Int) == 45) = false := beq_no (by omega)
                clear y0 z2
                have HS : Hid (argFold (xs.take (k + 1)) = ⟨a.flags, a.long, a.ops ++ [x]⟩) := by show _ = _; rw [argFold_take xs k hkl, HX.out, HA.out]; exact step_op _ _ P2 P1
                go_wp2_with (at_builtin; refine wpList_append_own_at _ rfl _ _ 22 rfl w.heap.size 9 i0 (.string ByteArray.empty) 1 16 Tryd.underlying22 HI0.out.1 HI0.out.2.1 HI0.out.2.2.1 HI0.out.2.2.2 rfl (by decide) _ _ _ rfl (HV.out.o.alloc _) ⟨wr.heap.size, 0, none⟩ 1 1 [.string x] rfl rfl (cell_one_new _ _ _) (by intro u hu; simp at hu; subst hu; rfl) (by have := HB.out; unfold maxLen; omega) (by have := HB.out; omega) (by have := hzr.out; simp; omega) ?_)
                intro v' w3 hown hgrow _ hat
                have HN : Hid (AInv w w3 u7 u8 v' ⟨a.flags, a.long, a.ops ++ [x]⟩) := HV.out.op hown hgrow hat
                clear hown hgrow hat
                go_wp2_with fail
                go_roundw
                case rel => exact ⟨k + 1, by omega, by go_num, by rw [HS.out]; exact HN.out⟩
                case measure => simp [intOf]; omega
            · have q1 : (2 : Int) ≤ (x.size : Int) := by omega
              have q2 : (1 : Int) ≤ (x.size : Int) := by omega
              have z3 : 1 < x.size := by omega
              by_cases y0 : x[0].toNat = 45
              · by_cases y1 : x[1].toNat = 45
                · have P2 : pre2 x = true := (pre2_iff x).2 ⟨z3, y0, y1⟩
                  have u0 : x[0] = 45 := UInt8.toNat_inj.1 y0
                  have u1 : x[1] = 45 := UInt8.toNat_inj.1 y1
                  clear y0 y1 z2
                  have HS : Hid (argFold (xs.take (k + 1)) = ⟨a.flags, a.long ++ [x], a.ops⟩) := by show _ = _; rw [argFold_take xs k hkl, HX.out, HA.out]; exact step_long _ _ P2
                  go_wp2_with (at_builtin; refine wpList_append_own_at _ rfl _ _ 22 rfl w.heap.size 9 i0 (.string ByteArray.empty) 1 16 Tryd.underlying22 HI0.out.1 HI0.out.2.1 HI0.out.2.2.1 HI0.out.2.2.2 rfl (by decide) _ _ _ rfl (HV.out.l.alloc _) ⟨wr.heap.size, 0, none⟩ 1 1 [.string x] rfl rfl (cell_one_new _ _ _) (by intro u hu; simp at hu; subst hu; rfl) (by have := HB.out; unfold maxLen; omega) (by have := HB.out; omega) (by have := hzr.out; simp; omega) ?_)
                  intro v' w3 hown hgrow _ hat
                  have HN : Hid (AInv w w3 u7 v' u9 ⟨a.flags, a.long ++ [x], a.ops⟩) := HV.out.long hown hgrow hat
                  clear hown hgrow hat
                  go_wp2_with fail
                  go_roundw
                  case rel => exact ⟨k + 1, by omega, by go_num, by rw [HS.out]; exact HN.out⟩
                  case measure => simp [intOf]; omega
                · have P1 : pre1 x = true := (pre1_iff x).2 ⟨z1, y0⟩
                  have P2 : pre2 x = false := by cases h : pre2 x with | false => rfl | true => exact absurd ((pre2_iff x).1 h) (by rintro ⟨h, e, e'⟩; omega)
                  have u0 : x[0] = 45 := UInt8.toNat_inj.1 y0
                  have u1 : ((x[1].toNat : Int) == 45) = false := beq_no (by omega)
                  clear y0 y1 z2
                  have HS : Hid (argFold (xs.take (k + 1)) = ⟨a.flags ++ x.extract 1 x.size, a.long, a.ops⟩) := by show _ = _; rw [argFold_take xs k hkl, HX.out, HA.out]; exact step_flag _ _ P2 P1
                  go_wp2_with (at_builtin; refine Lib.wpList_append_own_string _ rfl _ _ 50 9 rfl w.heap.size 5 j0 Tryd.underlying50 Tryd.underlying9 HJ0.out.1 HJ0.out.2.1 HJ0.out.2.2.1 HJ0.out.2.2.2 _ _ _ rfl HV.out.f (x.extract 1 x.size) rfl (by have := HB.out; have := HXs.out; rw [data_len, ByteArray.size_extract]; unfold maxLen; omega) (by have := HB.out; have := HXs.out; rw [data_len, ByteArray.size_extract]; omega) hzr.out ?_)
                  intro v' w3 hown hgrow _
                  have HN : Hid (AInv w w3 v' u8 u9 ⟨a.flags ++ x.extract 1 x.size, a.long, a.ops⟩) := HV.out.flag (by rw [ByteArray.size_extract]; omega) hown hgrow
                  clear hown hgrow
                  go_wp2_with fail
                  go_roundw
                  case rel => exact ⟨k + 1, by omega, by go_num, by rw [HS.out]; exact HN.out⟩
                  case measure => simp [intOf]; omega
              · have P1 : pre1 x = false := by cases h : pre1 x with | false => rfl | true => exact absurd ((pre1_iff x).1 h) (by rintro ⟨h, e⟩; omega)
                have P2 : pre2 x = false := by cases h : pre2 x with | false => rfl | true => exact absurd ((pre2_iff x).1 h) (by rintro ⟨h, e, e'⟩; omega)
                have u0 : ((x[0].toNat : Int) == 45) = false := beq_no (by omega)
                clear y0 z2
                have HS : Hid (argFold (xs.take (k + 1)) = ⟨a.flags, a.long, a.ops ++ [x]⟩) := by show _ = _; rw [argFold_take xs k hkl, HX.out, HA.out]; exact step_op _ _ P2 P1
                go_wp2_with (at_builtin; refine wpList_append_own_at _ rfl _ _ 22 rfl w.heap.size 9 i0 (.string ByteArray.empty) 1 16 Tryd.underlying22 HI0.out.1 HI0.out.2.1 HI0.out.2.2.1 HI0.out.2.2.2 rfl (by decide) _ _ _ rfl (HV.out.o.alloc _) ⟨wr.heap.size, 0, none⟩ 1 1 [.string x] rfl rfl (cell_one_new _ _ _) (by intro u hu; simp at hu; subst hu; rfl) (by have := HB.out; unfold maxLen; omega) (by have := HB.out; omega) (by have := hzr.out; simp; omega) ?_)
                intro v' w3 hown hgrow _ hat
                have HN : Hid (AInv w w3 u7 u8 v' ⟨a.flags, a.long, a.ops ++ [x]⟩) := HV.out.op hown hgrow hat
                clear hown hgrow hat
                go_wp2_with fail
                go_roundw
                case rel => exact ⟨k + 1, by omega, by go_num, by rw [HS.out]; exact HN.out⟩
                case measure => simp [intOf]; omega
        · obtain rfl : k = E := by omega
          go_wp2_with fail
          go_loopw [9, 12] (fun vo i wr => ∃ m : Nat, k + 1 ≤ m ∧ (m ≤ xs.length ∨ m = k + 1) ∧ i = .int .i64 m ∧ AInv w wr u7 u8 vo ⟨a.flags, a.long, a.ops ++ (xs.drop (k + 1)).take (m - (k + 1))⟩) (fun _ i _ => xs.length - (intOf i).toNat)
          case atStart => exact ⟨k + 1, Nat.le_refl _, .inr rfl, by go_num, by simpa using HV.out⟩
          case round =>
            obtain ⟨m, hm1, hm2, rfl, hW⟩ := hrel
            have HW : Hid (AInv w wr u7 u8 u9 ⟨a.flags, a.long, a.ops ++ (xs.drop (k + 1)).take (m - (k + 1))⟩) := hW
            have hzr2 : Hid (w.heap.size ≤ wr.heap.size) := hW.bel.size
            have HC : Hid ((a.ops ++ (xs.drop (k + 1)).take (m - (k + 1))).length ≤ 4194304) := by
              show _ ≤ _
              have h1 := HB.out
              have h2 : ((xs.drop (k + 1)).take (m - (k + 1))).length ≤ (xs.drop (k + 1)).length := List.length_take_le' _ _
              rw [List.length_drop] at h2
              rw [List.length_append]
              omega
            clear hW
            obtain ⟨q, hq⟩ : ∃ q, a.ops ++ (xs.drop (k + 1)).take (m - (k + 1)) = q := ⟨_, rfl⟩
            rw [hq] at HW HC
            have HQ : Hid (a.ops ++ (xs.drop (k + 1)).take (m - (k + 1)) = q) := hq
            clear hq
            by_cases hlt2 : m < xs.length
            · obtain ⟨b1, o1, he1, c1⟩ := Sl.at hxa hlt2
              cases he1
              obtain ⟨x, hx⟩ : ∃ x, xs[m] = x := ⟨_, rfl⟩
              rw [hx] at c1
              have HX : Hid (xs[m] = x) := hx
              have c2 := (HW.out.bel.cell (World.block_lt_of_cell? w _ c1)).trans c1
              clear hx hxa c1
              have HO : Hid (Strs wr w.heap.size u9 q) := HW.out.o
              go_wp2_with (at_builtin; refine wpList_append_own_at _ rfl _ _ 22 rfl w.heap.size 9 i0 (.string ByteArray.empty) 1 16 Tryd.underlying22 HI0.out.1 HI0.out.2.1 HI0.out.2.2.1 HI0.out.2.2.2 rfl (by decide) _ _ _ rfl (HO.out.alloc _) ⟨wr.heap.size, 0, none⟩ 1 1 [.string x] rfl rfl (cell_one_new _ _ _) (by intro u hu; simp at hu; subst hu; rfl) (by have := HC.out; unfold maxLen; omega) (by have := HC.out; omega) (by have := hzr2.out; simp; omega) ?_)
              intro v' w3 hown hgrow _ hat
              have hN := HW.out.op hown hgrow hat
              have HN : Hid (AInv w w3 u7 u8 v' ⟨a.flags, a.long, a.ops ++ (xs.drop (k + 1)).take (m + 1 - (k + 1))⟩) := by
                show AInv _ _ _ _ _ _
                rw [drop_take_succ xs k m hm1 hlt2, HX.out, ← List.append_assoc, HQ.out]
                exact hN
              clear hown hgrow hat hN
              go_wp2_with fail
              go_roundw
              case rel => exact ⟨m + 1, by omega, by omega, by go_num, HN.out⟩
              case measure => simp [intOf]; omega
            · have HR : Hid (argsB xs = ⟨a.flags, a.long, q⟩) := by
                show _ = _
                rw [argsB_eq, HE.out, HA.out]
                have e : (xs.drop (k + 1)).take (m - (k + 1)) = xs.drop (k + 1) := List.take_of_length_le (by rw [List.length_drop]; omega)
                have h := HQ.out
                rw [e] at h
                rw [h]
              have hcv := conv_owned HW.out.f
              rw [toB_of] at hcv
              go_wp2_with fail
              go_ret3
              rw [HR.out]
              exact ⟨_, _, rfl, HW.out.l.sl, HW.out.o.sl, HW.out.bel⟩

set_option maxHeartbeats 1000000 in
theorem zargs_none (xs : List ByteArray) (va : Value) (w : World) (hl : xs.length ≤ 1048576) (ht : total (xs.map (·.data.toList)) ≤ 2097152) (ha : Sl w va xs) (hE : endAt xs = xs.length) :
    Calls Tryd.prog 28 #[va] w fun e w' => ZAns (argsB xs) w e w' := by
  obtain ⟨i0, hi0, hz0, hz1, hz2⟩ := info_parts Tryd.info9
  have HI0 : Hid (Tryd.prog.info? 9 = some i0 ∧ i0.zero = some (.string ByteArray.empty) ∧ i0.size = 1 ∧ i0.bytes = 16) := ⟨hi0, hz0, hz1, hz2⟩
  clear hi0 hz0 hz1 hz2
  obtain ⟨j0, hi0, hz0, hz1, hz2⟩ := info_parts Tryd.info5
  have HJ0 : Hid (Tryd.prog.info? 5 = some j0 ∧ j0.zero = some (.int .u8 0) ∧ j0.size = 1 ∧ j0.bytes = 1) := ⟨hi0, hz0, hz1, hz2⟩
  clear hi0 hz0 hz1 hz2
  obtain ⟨ao, ca, rfl, hca, hma, hxa⟩ := ha
  have hEl := endAt_le xs
  have hbef := endAt_before xs
  have hat0 := endAt_at xs
  obtain ⟨E, hEe⟩ : ∃ E, endAt xs = E := ⟨_, rfl⟩
  have HE : Hid (endAt xs = E) := hEe
  have HBf : Hid (∀ k, k < E → ∀ h : k < xs.length, isDD xs[k] = false) := by
    show ∀ k, _
    rw [← hEe]
    exact hbef
  have HAt : True := trivial
  rw [hEe] at hEl hE
  clear hEe hbef hat0
  go_enter Tryd.func28, Tryd.ntmps28
  go_wp2_with fail
  go_loop [5, 6] (fun e i => ∃ k : Nat, k ≤ E ∧ i = .int .i64 k ∧ e = .int .i64 xs.length) (fun _ i => xs.length - (intOf i).toNat)
  case atStart => exact ⟨0, Nat.zero_le _, rfl, rfl⟩
  case round =>
    obtain ⟨k, hk, rfl, rfl⟩ := hrel
    by_cases hlt : k < E
    · have hkl : k < xs.length := by omega
      obtain ⟨b1, o1, rfl, c1⟩ := Sl.at hxa hkl
      have hd := HBf.out k hlt hkl
      obtain ⟨x, hx⟩ : ∃ x, xs[k] = x := ⟨_, rfl⟩
      rw [hx] at c1 hd
      rw [← isDD_walk] at hd
      clear hx hxa
      go_wp2_with fail
      go_round
      case rel => exact ⟨k + 1, by omega, by go_num, rfl⟩
      case measure => simp [intOf]; omega
    · obtain rfl : E = k := by omega
      subst hE
      go_wp2_with fail
      go_loopw [7, 8, 9, 10] (fun vf vl vo i wr => ∃ k : Nat, k ≤ xs.length ∧ i = .int .i64 k ∧ AInv w wr vf vl vo (argFold (xs.take k))) (fun _ _ _ i _ => xs.length - (intOf i).toNat)
      case atStart => exact ⟨0, Nat.zero_le _, rfl, by rw [List.take_zero]; exact ⟨World.ownsRow_nil _ _ _ _, World.ownsRow_nil _ _ _ _, World.ownsRow_nil _ _ _ _, apart_nil _, Below.refl _ _⟩⟩
      case round =>
        obtain ⟨k, hk, rfl, hV⟩ := hrel
        have hsm := argFold_take_small xs k
        obtain ⟨a, ha⟩ : ∃ a, argFold (xs.take k) = a := ⟨_, rfl⟩
        rw [ha] at hV hsm
        have HA : Hid (argFold (xs.take k) = a) := ha
        have HV : Hid (AInv w wr u7 u8 u9 a) := hV
        have HB : Hid (a.flags.size + a.long.length + a.ops.length ≤ 2097152) := Nat.le_trans hsm ht
        have hzr : Hid (w.heap.size ≤ wr.heap.size) := hV.bel.size
        clear hV hsm ha
        by_cases hlt : k < xs.length
        · have hkl : k < xs.length := by omega
          obtain ⟨b1, o1, rfl, c1⟩ := Sl.at hxa hkl
          have HXs : Hid (xs[k].size ≤ 2097152) := Nat.le_trans (size_total xs k hkl) ht
          obtain ⟨x, hx⟩ : ∃ x, xs[k] = x := ⟨_, rfl⟩
          rw [hx] at c1 HXs
          have HX : Hid (xs[k] = x) := hx
          have c2 := (HV.out.bel.cell (World.block_lt_of_cell? w _ c1)).trans c1
          have hxs : (x.size : Int) ≤ 2097152 := by have := HXs.out; omega
          clear hx hxa c1
          by_cases z0 : x.size = 0
          · have q1 : ¬ (2 : Int) ≤ (x.size : Int) := by omega
            have q2 : ¬ (1 : Int) ≤ (x.size : Int) := by omega
            have P1 : pre1 x = false := by cases h : pre1 x with | false => rfl | true => exact absurd ((pre1_iff x).1 h) (by rintro ⟨h, e⟩; omega)
            have P2 : pre2 x = false := by cases h : pre2 x with | false => rfl | true => exact absurd ((pre2_iff x).1 h) (by rintro ⟨h, e, e'⟩; omega)
            clear z0
            have HS : Hid (argFold (xs.take (k + 1)) = ⟨a.flags, a.long, a.ops ++ [x]⟩) := by show _ = _; rw [argFold_take xs k hkl, HX.out, HA.out]; exact step_op _ _ P2 P1
            go_wp2_with (at_builtin; refine wpList_append_own_at _ rfl _ _ 22 rfl w.heap.size 9 i0 (.string ByteArray.empty) 1 16 Tryd.underlying22 HI0.out.1 HI0.out.2.1 HI0.out.2.2.1 HI0.out.2.2.2 rfl (by decide) _ _ _ rfl (HV.out.o.alloc _) ⟨wr.heap.size, 0, none⟩ 1 1 [.string x] rfl rfl (cell_one_new _ _ _) (by intro u hu; simp at hu; subst hu; rfl) (by have := HB.out; unfold maxLen; omega) (by have := HB.out; omega) (by have := hzr.out; simp; omega) ?_)
            intro v' w3 hown hgrow _ hat
            have HN : Hid (AInv w w3 u7 u8 v' ⟨a.flags, a.long, a.ops ++ [x]⟩) := HV.out.op hown hgrow hat
            clear hown hgrow hat
            go_wp2_with fail
            go_roundw
            case rel => exact ⟨k + 1, by omega, by go_num, by rw [HS.out]; exact HN.out⟩
            case measure => simp [intOf]; omega
          · have z1 : 0 < x.size := by omega
            by_cases z2 : x.size = 1
            · have q1 : ¬ (2 : Int) ≤ (x.size : Int) := by omega
              have q2 : (1 : Int) ≤ (x.size : Int) := by omega
              by_cases y0 : x[0].toNat = 45
              · have P1 : pre1 x = true := (pre1_iff x).2 ⟨z1, y0⟩
                have P2 : pre2 x = false := by cases h : pre2 x with | false => rfl | true => exact absurd ((pre2_iff x).1 h) (by rintro ⟨h, e, e'⟩; omega)
                have u0 : x[0] = 45 := UInt8.toNat_inj.1 y0
                clear y0 z2
                have HS : Hid (argFold (xs.take (k + 1)) = ⟨a.flags ++ x.extract 1 x.size, a.long, a.ops⟩) := by show _ = _; rw [argFold_take xs k hkl, HX.out, HA.out]; exact step_flag _ _ P2 P1
                go_wp2_with (at_builtin; refine Lib.wpList_append_own_string _ rfl _ _ 50 9 rfl w.heap.size 5 j0 Tryd.underlying50 Tryd.underlying9 HJ0.out.1 HJ0.out.2.1 HJ0.out.2.2.1 HJ0.out.2.2.2 _ _ _ rfl HV.out.f (x.extract 1 x.size) rfl (by have := HB.out; have := HXs.out; rw [data_len, ByteArray.size_extract]; unfold maxLen; omega) (by have := HB.out; have := HXs.out; rw [data_len, ByteArray.size_extract]; omega) hzr.out ?_)
                intro v' w3 hown hgrow _
                have HN : Hid (AInv w w3 v' u8 u9 ⟨a.flags ++ x.extract 1 x.size, a.long, a.ops⟩) := HV.out.flag (by rw [ByteArray.size_extract]; omega) hown hgrow
                clear hown hgrow
                go_wp2_with fail
                go_roundw
                case rel => exact ⟨k + 1, by omega, by go_num, by rw [HS.out]; exact HN.out⟩
                case measure => simp [intOf]; omega
              · have P1 : pre1 x = false := by cases h : pre1 x with | false => rfl | true => exact absurd ((pre1_iff x).1 h) (by rintro ⟨h, e⟩; omega)
                have P2 : pre2 x = false := by cases h : pre2 x with | false => rfl | true => exact absurd ((pre2_iff x).1 h) (by rintro ⟨h, e, e'⟩; omega)
                have u0 : ((x[0].toNat : Int) == 45) = false := beq_no (by omega)
                clear y0 z2
                have HS : Hid (argFold (xs.take (k + 1)) = ⟨a.flags, a.long, a.ops ++ [x]⟩) := by show _ = _; rw [argFold_take xs k hkl, HX.out, HA.out]; exact step_op _ _ P2 P1
                go_wp2_with (at_builtin; refine wpList_append_own_at _ rfl _ _ 22 rfl w.heap.size 9 i0 (.string ByteArray.empty) 1 16 Tryd.underlying22 HI0.out.1 HI0.out.2.1 HI0.out.2.2.1 HI0.out.2.2.2 rfl (by decide) _ _ _ rfl (HV.out.o.alloc _) ⟨wr.heap.size, 0, none⟩ 1 1 [.string x] rfl rfl (cell_one_new _ _ _) (by intro u hu; simp at hu; subst hu; rfl) (by have := HB.out; unfold maxLen; omega) (by have := HB.out; omega) (by have := hzr.out; simp; omega) ?_)
                intro v' w3 hown hgrow _ hat
                have HN : Hid (AInv w w3 u7 u8 v' ⟨a.flags, a.long, a.ops ++ [x]⟩) := HV.out.op hown hgrow hat
                clear hown hgrow hat
                go_wp2_with fail
                go_roundw
                case rel => exact ⟨k + 1, by omega, by go_num, by rw [HS.out]; exact HN.out⟩
                case measure => simp [intOf]; omega
            · have q1 : (2 : Int) ≤ (x.size : Int) := by omega
              have q2 : (1 : Int) ≤ (x.size : Int) := by omega
              have z3 : 1 < x.size := by omega
              by_cases y0 : x[0].toNat = 45
              · by_cases y1 : x[1].toNat = 45
                · have P2 : pre2 x = true := (pre2_iff x).2 ⟨z3, y0, y1⟩
                  have u0 : x[0] = 45 := UInt8.toNat_inj.1 y0
                  have u1 : x[1] = 45 := UInt8.toNat_inj.1 y1
                  clear y0 y1 z2
                  have HS : Hid (argFold (xs.take (k + 1)) = ⟨a.flags, a.long ++ [x], a.ops⟩) := by show _ = _; rw [argFold_take xs k hkl, HX.out, HA.out]; exact step_long _ _ P2
                  go_wp2_with (at_builtin; refine wpList_append_own_at _ rfl _ _ 22 rfl w.heap.size 9 i0 (.string ByteArray.empty) 1 16 Tryd.underlying22 HI0.out.1 HI0.out.2.1 HI0.out.2.2.1 HI0.out.2.2.2 rfl (by decide) _ _ _ rfl (HV.out.l.alloc _) ⟨wr.heap.size, 0, none⟩ 1 1 [.string x] rfl rfl (cell_one_new _ _ _) (by intro u hu; simp at hu; subst hu; rfl) (by have := HB.out; unfold maxLen; omega) (by have := HB.out; omega) (by have := hzr.out; simp; omega) ?_)
                  intro v' w3 hown hgrow _ hat
                  have HN : Hid (AInv w w3 u7 v' u9 ⟨a.flags, a.long ++ [x], a.ops⟩) := HV.out.long hown hgrow hat
                  clear hown hgrow hat
                  go_wp2_with fail
                  go_roundw
                  case rel => exact ⟨k + 1, by omega, by go_num, by rw [HS.out]; exact HN.out⟩
                  case measure => simp [intOf]; omega
                · have P1 : pre1 x = true := (pre1_iff x).2 ⟨z1, y0⟩
                  have P2 : pre2 x = false := by cases h : pre2 x with | false => rfl | true => exact absurd ((pre2_iff x).1 h) (by rintro ⟨h, e, e'⟩; omega)
                  have u0 : x[0] = 45 := UInt8.toNat_inj.1 y0
                  have u1 : ((x[1].toNat : Int) == 45) = false := beq_no (by omega)
                  clear y0 y1 z2
                  have HS : Hid (argFold (xs.take (k + 1)) = ⟨a.flags ++ x.extract 1 x.size, a.long, a.ops⟩) := by show _ = _; rw [argFold_take xs k hkl, HX.out, HA.out]; exact step_flag _ _ P2 P1
                  go_wp2_with (at_builtin; refine Lib.wpList_append_own_string _ rfl _ _ 50 9 rfl w.heap.size 5 j0 Tryd.underlying50 Tryd.underlying9 HJ0.out.1 HJ0.out.2.1 HJ0.out.2.2.1 HJ0.out.2.2.2 _ _ _ rfl HV.out.f (x.extract 1 x.size) rfl (by have := HB.out; have := HXs.out; rw [data_len, ByteArray.size_extract]; unfold maxLen; omega) (by have := HB.out; have := HXs.out; rw [data_len, ByteArray.size_extract]; omega) hzr.out ?_)
                  intro v' w3 hown hgrow _
                  have HN : Hid (AInv w w3 v' u8 u9 ⟨a.flags ++ x.extract 1 x.size, a.long, a.ops⟩) := HV.out.flag (by rw [ByteArray.size_extract]; omega) hown hgrow
                  clear hown hgrow
                  go_wp2_with fail
                  go_roundw
                  case rel => exact ⟨k + 1, by omega, by go_num, by rw [HS.out]; exact HN.out⟩
                  case measure => simp [intOf]; omega
              · have P1 : pre1 x = false := by cases h : pre1 x with | false => rfl | true => exact absurd ((pre1_iff x).1 h) (by rintro ⟨h, e⟩; omega)
                have P2 : pre2 x = false := by cases h : pre2 x with | false => rfl | true => exact absurd ((pre2_iff x).1 h) (by rintro ⟨h, e, e'⟩; omega)
                have u0 : ((x[0].toNat : Int) == 45) = false := beq_no (by omega)
                clear y0 z2
                have HS : Hid (argFold (xs.take (k + 1)) = ⟨a.flags, a.long, a.ops ++ [x]⟩) := by show _ = _; rw [argFold_take xs k hkl, HX.out, HA.out]; exact step_op _ _ P2 P1
                go_wp2_with (at_builtin; refine wpList_append_own_at _ rfl _ _ 22 rfl w.heap.size 9 i0 (.string ByteArray.empty) 1 16 Tryd.underlying22 HI0.out.1 HI0.out.2.1 HI0.out.2.2.1 HI0.out.2.2.2 rfl (by decide) _ _ _ rfl (HV.out.o.alloc _) ⟨wr.heap.size, 0, none⟩ 1 1 [.string x] rfl rfl (cell_one_new _ _ _) (by intro u hu; simp at hu; subst hu; rfl) (by have := HB.out; unfold maxLen; omega) (by have := HB.out; omega) (by have := hzr.out; simp; omega) ?_)
                intro v' w3 hown hgrow _ hat
                have HN : Hid (AInv w w3 u7 u8 v' ⟨a.flags, a.long, a.ops ++ [x]⟩) := HV.out.op hown hgrow hat
                clear hown hgrow hat
                go_wp2_with fail
                go_roundw
                case rel => exact ⟨k + 1, by omega, by go_num, by rw [HS.out]; exact HN.out⟩
                case measure => simp [intOf]; omega
        · have hkE : k = xs.length := by omega
          subst hkE
          go_wp2_with fail
          go_loopw [9, 12] (fun vo i wr => ∃ m : Nat, xs.length + 1 ≤ m ∧ (m ≤ xs.length ∨ m = xs.length + 1) ∧ i = .int .i64 m ∧ AInv w wr u7 u8 vo ⟨a.flags, a.long, a.ops ++ (xs.drop (xs.length + 1)).take (m - (xs.length + 1))⟩) (fun _ i _ => xs.length - (intOf i).toNat)
          case atStart => exact ⟨xs.length + 1, Nat.le_refl _, .inr rfl, by go_num, by simpa using HV.out⟩
          case round =>
            obtain ⟨m, hm1, hm2, rfl, hW⟩ := hrel
            have HW : Hid (AInv w wr u7 u8 u9 ⟨a.flags, a.long, a.ops ++ (xs.drop (xs.length + 1)).take (m - (xs.length + 1))⟩) := hW
            have hzr2 : Hid (w.heap.size ≤ wr.heap.size) := hW.bel.size
            have HC : Hid ((a.ops ++ (xs.drop (xs.length + 1)).take (m - (xs.length + 1))).length ≤ 4194304) := by
              show _ ≤ _
              have h1 := HB.out
              have h2 : ((xs.drop (xs.length + 1)).take (m - (xs.length + 1))).length ≤ (xs.drop (xs.length + 1)).length := List.length_take_le' _ _
              rw [List.length_drop] at h2
              rw [List.length_append]
              omega
            clear hW
            by_cases hlt2 : m < xs.length
            · exfalso; omega
            · have HR : Hid (argsB xs = ⟨a.flags, a.long, a.ops ++ (xs.drop (xs.length + 1)).take (m - (xs.length + 1))⟩) := by
                show _ = _
                rw [argsB_eq, HE.out, HA.out]
                have e : (xs.drop (xs.length + 1)).take (m - (xs.length + 1)) = xs.drop (xs.length + 1) := List.take_of_length_le (by rw [List.length_drop]; omega)
                rw [e]
              have hcv := conv_owned HW.out.f
              rw [toB_of] at hcv
              go_wp2_with fail
              go_ret3
              rw [HR.out]
              exact ⟨_, _, rfl, HW.out.l.sl, HW.out.o.sl, HW.out.bel⟩


theorem zargs_any (xs : List ByteArray) (va : Value) (w : World) (hl : xs.length ≤ 1048576) (ht : total (xs.map (·.data.toList)) ≤ 2097152) (ha : Sl w va xs) :
    Calls Tryd.prog 28 #[va] w fun e w' => ZAns (argsB xs) w e w' := by
  by_cases h : endAt xs < xs.length
  · exact zargs_found xs va w hl ht ha h
  · exact zargs_none xs va w hl ht ha (by have := endAt_le xs; omega)

end Go.Proofs.Qxb6628254aDoor
