import Derived.Test.Qxb6628254aDoorNewP
namespace Go.Proofs.Qxb6628254aDoor
open Go.RowKit
theorem Tryd.info45 : (Tryd.prog.info? 45).map (fun i => (i.zero, i.size, i.bytes)) = some (some (.agg #[.string ByteArray.empty, .string ByteArray.empty, .string ByteArray.empty, .slice none 0 0, .slice none 0 0]), 5, 96) := by kernel_rfl

theorem S7.step {w1 W W' : World} {p : Addr} {x : Value} (h : Below w1.heap.size w1 W ∧ W.cell? p = some x) (hb : Below W.heap.size W W') : Below w1.heap.size w1 W' ∧ W'.cell? p = some x :=
  ⟨h.1.trans (hb.mono h.1.size), (hb.cell (World.block_lt_of_cell? W _ h.2)).trans h.2⟩

theorem cell_step {W W' : World} {p : Addr} {x : Value} (h : W.cell? p = some x) (hb : Below W.heap.size W W') : W'.cell? p = some x := (hb.cell (World.block_lt_of_cell? W _ h)).trans h

theorem cell_step' {w W : World} {p : Addr} {x : Value} (h : w.cell? p = some x) (hb : Below w.heap.size w W) : W.cell? p = some x := cell_step h hb

theorem int_beq_no {a b : Int} (h : a ≠ b) : (a == b) = false := by simpa using h

theorem cells_new (W : World) (cs : List Value) (t : TypeId) : ∀ j u, cs[j]? = some u → (W.alloc (.cells cs.toArray t)).cell? ((⟨W.heap.size, 0, none⟩ : Addr).add j) = some u := by
  intro j u hu
  rw [Go.WideShapes.add_plain]
  have e := heap_alloc_new W (.cells cs.toArray t)
  have hz : (0 : Nat) + j = j := Nat.zero_add j
  unfold World.cell?
  rw [e]
  simpa using hu

/-- readArguments, in the midst of a round -/
def RA (w0 : World) (a : Args) (W : World) (e : Ending) (w' : World) : Prop :=
  ∃ nl cl no co, e = .returned (.agg #[.string a.flags, .slice nl a.long.length cl, .slice no a.ops.length co]) ∧
    Strs w' (w0.heap.size + 2) (.slice nl a.long.length cl) a.long ∧ Strs w' (w0.heap.size + 2) (.slice no a.ops.length co) a.ops ∧ Below W.heap.size W w'

theorem words_sum (x : ByteArray) (hx : x.size ≤ 1048576) : total ((wordsB x).map (·.data.toList)) ≤ 1048577 := by
  have h := wordsL_total x.data.toList
  unfold wordsB
  rw [map_toB_data]
  rw [data_len] at h
  omega

/-- what NewCommands hands back -/
def NAns (xs : List ByteArray) (va : Value) (w : World) (e : Ending) (w' : World) : Prop := ∃ vb, e = .returned (.agg #[vb, va]) ∧ Bl w' vb (blks xs) ∧ Below w.heap.size w w'

theorem blks_take (xs : List ByteArray) (k : Nat) (hk : k < xs.length) : blks (xs.take (k + 1)) = blks (xs.take k) ++ blk1 xs[k] := by
  rw [List.take_succ_eq_append_getElem hk, blks_append, blks_one]

theorem blks_take_len (xs : List ByteArray) : (blks xs).length ≤ xs.length := by
  induction xs with
  | nil => simp [blks]
  | cons x r ih =>
    have e : blks (x :: r) = blk1 x ++ blks r := by simp [blks]
    rw [e, List.length_append, List.length_cons]
    have : (blk1 x).length ≤ 1 := by unfold blk1; split <;> simp
    omega

theorem NInv.done {w wr : World} {vb va : Value} {gs : List GB} (h : NInv w wr vb va gs) :
    ∃ W, (wr.setCell ⟨w.heap.size, 0, none⟩ vb).setCell ⟨w.heap.size, 1, none⟩ va = W ∧
      (W.cell? ⟨w.heap.size, 0, none⟩ = some vb ∧ W.cell? ⟨w.heap.size, 1, none⟩ = some va) ∧
      Bl W vb (gs.map (·.1)) ∧ Below w.heap.size w W := by
  have kp : ∀ {e : TypeId} {s n : Nat} {v : Value} {ys : List Value}, wr.ownsRow (w.heap.size + 2) e s v n ys → ((wr.setCell ⟨w.heap.size, 0, none⟩ vb).setCell ⟨w.heap.size, 1, none⟩ va).ownsRow (w.heap.size + 2) e s v n ys := fun {e s n v ys} hr =>
    (hr.kept (set_grown _ _ _) (ne_row hr (Nat.lt_add_of_pos_right (by decide)))).kept (set_grown _ _ _) (ne_row hr (Nat.lt_add_of_pos_right (by decide)))
  refine ⟨_, rfl, ?_, ?_, (h.bel.setCell (Nat.le_refl _) _).setCell (Nat.le_refl _) _⟩
  · have e := set_block (i := 1) (set_block (i := 0) h.res vb) va
    exact ⟨(cells2 (x := vb) (y := va) e).1, (cells2 (x := vb) (y := va) e).2.1⟩
  · have hl : (gs.map (·.1)).length = gs.length := by simp
    exact row_bl (kp h.row) (fun g hg => ⟨kp (h.str g hg).1, kp (h.str g hg).2⟩)


set_option maxHeartbeats 4000000 in
theorem new_any (xs : List ByteArray) (va vA : Value) (w : World) (hl : xs.length ≤ 1048576) (hxs : ∀ x ∈ xs, x.size ≤ 1048576) (ha : Sl w va xs) (hA : ∃ ao n c, vA = .slice ao n c) (ht : Tabs w) :
    Calls Tryd.prog 8 #[va, vA] w fun e w' => NAns xs vA w e w' := by
  obtain ⟨i0, hi0, hz0, hz1, hz2⟩ := info_parts Tryd.info45
  have HI0 : Hid (Tryd.prog.info? 45 = some i0 ∧ i0.zero = some (.agg #[.string ByteArray.empty, .string ByteArray.empty, .string ByteArray.empty, .slice none 0 0, .slice none 0 0]) ∧ i0.size = 5 ∧ i0.bytes = 96) := ⟨hi0, hz0, hz1, hz2⟩
  clear hi0 hz0 hz1 hz2
  have HT : Hid (Tabs w) := ht
  have HX : Hid (∀ x ∈ xs, x.size ≤ 1048576) := hxs
  clear ht hxs
  obtain ⟨ao, ca, rfl, hca, hma, hxa⟩ := ha
  obtain ⟨Ao, An, Ac, rfl⟩ := hA
  go_enter Tryd.func8, Tryd.ntmps8
  go_wp2_with fail
  go_loopw [13] (fun i wr => ∃ (k : Nat) (vb : Value) (gs : List GB), k ≤ xs.length ∧ i = .int .i64 k ∧ gs.map (·.1) = blks (xs.take k) ∧ NInv w wr vb (.slice Ao An Ac) gs) (fun i _ => xs.length - (intOf i).toNat)
  case atStart =>
    refine ⟨0, .slice none 0 0, [], Nat.zero_le _, rfl, rfl, ?_⟩
    refine ⟨(Below.heap_alloc _ _ _ (by simp)).trans (heap_alloc_new _ _), ?_, World.ownsRow_nil _ _ _ _, (fun g hg => absurd hg (by simp)), ((Below.refl _ _).alloc (Nat.le_refl _) _).alloc (by simp) _⟩
    have := heap_alloc_new (w.alloc (.cells #[.slice none 0 0, .slice none 0 0] 28)) (.cells #[.slice none 0 0, .slice Ao An Ac] 28)
    rw [World.size_alloc] at this
    exact this
  case round =>
    obtain ⟨k, vb, gs, hk, rfl, hgs, hV⟩ := hrel
    have HG : Hid (gs.map (·.1) = blks (xs.take k)) := hgs
    have HL : Hid (gs.length ≤ 1048576) := by
      show _ ≤ _
      have h1 := congrArg List.length hgs
      have h2 := blks_take_len (xs.take k)
      rw [List.length_map] at h1
      rw [List.length_take] at h2
      omega
    have HV : Hid (NInv w wr vb (.slice Ao An Ac) gs) := hV
    obtain ⟨f0, f1, g0, g1⟩ := cells2 hV.st
    obtain ⟨nb, cb, hvb⟩ := row_shape hV.row
    subst hvb
    clear hV hgs
    by_cases hlt : k < xs.length
    · obtain ⟨b1, o1, rfl, c1⟩ := Sl.at hxa hlt
      have HXk : Hid (xs[k].size ≤ 1048576) := HX.out _ (List.getElem_mem _)
      have HB1 : Hid (blks (xs.take (k + 1)) = blks (xs.take k) ++ blk1 xs[k]) := blks_take xs k hlt
      obtain ⟨x, hx⟩ : ∃ x, xs[k] = x := ⟨_, rfl⟩
      rw [hx] at c1 HXk HB1
      have c2 := (HV.out.bel.cell (World.block_lt_of_cell? w _ c1)).trans c1
      clear hx c1
      go_wp2_with fail
      refine (fields_any x _ HXk.out (HT.out.keep HV.out.bel)).mono ?_
      rintro e w1 ⟨A, rfl, hws, hb1⟩
      have hwt := words_sum x HXk.out
      obtain ⟨ws, hwse⟩ : ∃ ws, wordsB x = ws := ⟨_, rfl⟩
      have HB2 : Hid (blk1 x = if ws = [] then [] else [mkBlk ws]) := by rw [← hwse]; rfl
      rw [hwse] at hws hwt ⊢
      have HN1 : Hid (NInv w w1 (.slice nb gs.length cb) (.slice Ao An Ac) gs) := HV.out.below hb1
      by_cases hw0 : ws = []
      · subst hw0
        clear hws
        go_wp2_with fail
        go_roundw
        case rel => exact ⟨k + 1, _, gs, by omega, by go_num, by rw [HB1.out, HG.out, HB2.out]; simp, HN1.out⟩
        case measure => simp [intOf]; omega
      · obtain ⟨y, r, rfl⟩ : ∃ y r, ws = y :: r := by cases ws with | nil => exact absurd rfl hw0 | cons y r => exact ⟨y, r, rfl⟩
        have HB3 : Hid (blk1 x = [⟨joinB (y :: r), progB y, argsB r⟩]) := by show _ = _; rw [HB2.out, if_neg hw0]; rfl
        have hlen := length_total ((y :: r).map (·.data.toList))
        rw [List.length_map] at hlen
        have hrt : total (r.map (·.data.toList)) ≤ 2097152 := by rw [List.map_cons, total_cons] at hwt; omega
        have HY : Hid (y.size ≤ 1048576) := by show _ ≤ _; rw [List.map_cons, total_cons, data_len] at hwt; omega
        have hcl : ∀ j u, (y :: r)[j]? = some u → w1.cell? ⟨A, j, none⟩ = some (.string u) := fun j u hu => by
          have := hws.cells (g := A) rfl j (.string u) (by rw [List.getElem?_map, hu]; rfl)
          rw [Go.WideShapes.add_plain] at this
          simpa using this
        have cy : w1.cell? ⟨A, 0, none⟩ = some (.string y) := hcl 0 y rfl
        have hA0 : A < w1.heap.size := World.block_lt_of_cell? w1 _ cy
        have hrl : r.length = (y :: r).length - 1 := rfl
        obtain ⟨T, hT⟩ : ∃ T, joinB (y :: r) = T := ⟨_, rfl⟩
        obtain ⟨n, hn⟩ : ∃ n, (y :: r).length = n := ⟨_, rfl⟩
        have hn1 : 1 ≤ n := by rw [← hn]; exact Nat.succ_pos _
        have hn2 : (1 : Int) ≤ (n : Int) := by omega
        have hn3 : ((n : Int) == 0) = false := int_beq_no (by omega)
        have HJ : Hid (∀ W, Below w1.heap.size w1 W → Calls Tryd.prog 22 #[.slice (some ⟨A, 0, none⟩) n n, .string ⟨#[32]⟩] W fun e w' => e = .returned (.string T) ∧ Below W.heap.size W w') := by
          intro W hb
          rw [← hn, ← hT]
          exact sjoin_any A (y :: r) _ W (Nat.le_refl _) (by omega) (by have := hb.size; omega) (fun j u hu => cell_step' (hcl j u hu) hb)
        obtain ⟨A1, hA1, HS1⟩ : ∃ A1, (if n = 1 then some (⟨A, 0, none⟩ : Addr) else some ⟨A, 1, none⟩) = some A1 ∧ Hid (Sl w1 (.slice (some A1) (n - 1) (n - 1)) r) := by
          by_cases h : n = 1
          · refine ⟨⟨A, 0, none⟩, by simp [h], ?_⟩
            refine ⟨_, _, by rw [hrl, hn], by omega, by unfold maxLen; omega, fun h0 => ?_⟩
            omega
          · refine ⟨⟨A, 1, none⟩, by simp [h], ?_⟩
            refine ⟨_, _, by rw [hrl, hn], by omega, by unfold maxLen; omega, fun h0 => ⟨A, 1, rfl, fun j u hu => ?_⟩⟩
            rw [Nat.add_comm]
            exact hcl (j + 1) u (by simpa using hu)
        obtain ⟨a, haa⟩ : ∃ a, argsB r = a := ⟨_, rfl⟩
        have HR : Hid (∀ W, Below w1.heap.size w1 W → Calls Tryd.prog 24 #[.slice (some A1) (n - 1) (n - 1)] W fun e w' => RA w a W e w') := by
          intro W hb
          refine (read_any r _ W (by omega) hrt (HS1.out.keep hb)).mono ?_
          rintro e w' ⟨vl, vo, rfl, s1, s2, _, hb2⟩
          rw [haa] at s1 s2 ⊢
          obtain ⟨nl, cl, rfl⟩ := row_shape s1
          obtain ⟨no, co, rfl⟩ := row_shape s2
          have hz : w.heap.size + 2 ≤ W.heap.size + 2 := by have := hb.size; have := hb1.size; have := HV.out.bel.size; omega
          exact ⟨nl, cl, no, co, rfl, own_mono s1 hz, own_mono s2 hz, hb2⟩
        have HRow : Hid (∀ W, Below w1.heap.size w1 W → NInv w W (.slice nb gs.length cb) (.slice Ao An Ac) gs) := fun W hb => HN1.out.below hb
        obtain ⟨p, hp⟩ : ∃ p, progB y = p := ⟨_, rfl⟩
        have HP : Hid (∀ W, Calls Tryd.prog 23 #[.string y] W fun e w' => e = .returned (.string p) ∧ w' = W) := fun W => by rw [← hp]; exact program_any y HY.out W
        obtain ⟨k0, k1, l0, l1⟩ := cells2 HN1.out.st
        have k0d : w1.drew.cell? ⟨w.heap.size + 1, 0, none⟩ = some (.slice nb gs.length cb) := k0
        have cyd : w1.drew.cell? ⟨A, 0, none⟩ = some (.string y) := cy
        have hAw : wr.heap.size ≤ A := (hws.lt A rfl).1
        have hAne : some A ≠ (Value.slice nb gs.length cb).ownBlock := fun e => by have := (HV.out.row.lt A e.symm).2; omega
        have hAc : w.heap.size + 1 ≠ A := by have := HV.out.lts; omega
        have hzz : Hid (w.heap.size + 1 < w1.heap.size) := HN1.out.lts
        have hn4 : (0 : Int) < (n : Int) := by omega
        have hn5 : 0 < n := by omega
        rw [hT, haa, hp] at HB3
        rw [hn]
        clear hws hwt hlen hrt hcl hrl HS1 hw0 HB2 f0 f1 g0 g1 c2 HV hb1 haa hp hT hn HY hAw
        go_wp2_with fail
        go_region_law (first
          | (rw [if_pos (by rfl)]; go_simp; go_at_call 22; refine (HJ.out _ (Below.refl _ _).drew).mono ?_; rintro e w22 ⟨rfl, hb22⟩; have k22 := cell_step k0d hb22; have y22 := cell_step cyd hb22; dsimp only)
          | (rw [if_pos (by rfl)]; go_simp; go_at_call 23; refine (HP.out _).mono ?_; rintro e w23 ⟨rfl, rfl⟩; dsimp only)
          | (rw [if_pos (by rfl)]; go_simp; go_at_call 24; refine (HR.out _ ((Below.refl w1.heap.size w1).drew.trans hb22)).mono ?_; rintro e w24 ⟨nl, cl, no, co, rfl, s1, s2, hb24⟩; have k24 := cell_step k22 hb24; have HNz : Hid (NInv w w24 (.slice nb gs.length cb) (.slice Ao An Ac) gs) := HRow.out _ (((Below.refl w1.heap.size w1).drew.trans hb22).trans (hb24.mono hb22.size)); have z24 := HNz.out.lts; dsimp only)
          | (refine step_append_at rfl (.tmp 23) (.tmp 34) 26 rfl (w.heap.size + 2) 45 i0 _ 5 96 Tryd.underlying26 HI0.out.1 HI0.out.2.1 HI0.out.2.2.1 HI0.out.2.2.2 rfl (by decide) (Value.slice nb gs.length cb) gs.length (gcells gs) (by simp [Act.eval]) (HNz.out.row.alloc _) ⟨w24.heap.size, 0, none⟩ 1 1 (gcell (⟨T, p, a⟩, .slice nl a.long.length cl, .slice no a.ops.length co)) (by simp [Act.eval]) rfl (cells_new _ _ _) (by intro u hu; simp [gcell] at hu; rcases hu with rfl | rfl | rfl | rfl | rfl <;> rfl) (by have := HL.out; unfold maxLen; omega) (by have := HL.out; omega) (by have := HNz.out.lts; simp; omega) ?_; intro v' w3 hown hgrow hat; obtain ⟨n0, n1, n2⟩ := (HNz.out.below ((Below.refl _ _).alloc (Nat.le_refl _) _)).mid hgrow; obtain ⟨q0, q1, t0, t1⟩ := cells2 n1; have HN : Hid (NInv w (w3.setCell ⟨w.heap.size + 1, 0, none⟩ v') v' (.slice Ao An Ac) (gs ++ [(⟨T, p, a⟩, .slice nl a.long.length cl, .slice no a.ops.length co)])) := (HNz.out.below ((Below.refl _ _).alloc (Nat.le_refl _) _)).step (b := ⟨T, p, a⟩) (s1.alloc _) (s2.alloc _) hown hgrow; obtain ⟨nv, cv, hvv⟩ := row_shape hown; subst hvv; clear hown hgrow hat n0 n1 n2))
        all_goals go_wp2_with fail
        all_goals go_roundw
        all_goals first
          | exact ⟨k + 1, _, _, by omega, by go_num, by rw [HB1.out, HB3.out, List.map_append, HG.out]; rfl, HN.out⟩
          | (simp [intOf]; omega)
    · obtain rfl : k = xs.length := by omega
      have HR : Hid (blks xs = gs.map (·.1)) := by have := HG.out; rw [List.take_length] at this; exact this.symm
      obtain ⟨r0, r1, t0, t1⟩ := cells2 HV.out.res
      obtain ⟨W, hW, ⟨q0, q1⟩, QA⟩ := HV.out.done
      go_wp2_with fail
      exact bodyPost_ret (v := .agg #[.slice nb gs.length cb, .slice Ao An Ac]) (by simp [results, Tryd.results8, go_sem, q0, q1]) rfl ⟨_, rfl, by rw [HR.out]; exact QA.1, QA.2⟩
end Go.Proofs.Qxb6628254aDoor
