import Derived.Test.Qxb6628254aDoorArgs
import Derived.Deep.RegionLaw
import Derived.Laws.ResultCell
namespace Go.Proofs.Qxb6628254aDoor
open Go.RowKit

/-- append onto a slice of the call's own, as one step of a region that draws its order; what is appended may be nothing -/
theorem step_append_at {P : Program} {w : World} {ops : Array Oper} {o : Oper} {a : Act} {K : Act → World → Prop} {Q : Exit → Act → World → Prop} {E : Prop} (hgd : o.guard = none) (s x : Operand) (t : TypeId)
    (ho : o.op = .call { callee := .builtin .append, args := #[s, x], argTypes := #[t, t] })
    (base : Nat) (e : TypeId) (i : TypeInfo) (z : Value) (size bytes : Nat) (ht : P.underlying t = some (.slice e)) (hi : P.info? e = some i) (hz : i.zero = some z)
    (hsize : i.size = size) (hby : i.bytes = bytes) (hzs : z.cells.size = size) (hsz : 0 < size)
    (v : Value) (n : Nat) (xs : List Value) (hs : a.eval s = v) (hown : w.ownsRow base e size v n xs)
    (ad : Addr) (m c : Nat) (news : List Value) (hx : a.eval x = .slice (some ad) m c) (hl : news.length = m * size) (hnews : ∀ j u, news[j]? = some u → w.cell? (ad.add j) = some u) (h1 : ∀ u ∈ news, u.oneCell' = true)
    (h63 : n + m ≤ maxLen) (hbytes : (n + m) * bytes ≤ 140737488355328) (hbase : base ≤ w.heap.size)
    (h : ∀ v' w', w'.ownsRow base e size v' (n + m) (xs ++ news) → w.grownBy w' v.ownBlock → (v'.ownBlock = v.ownBlock ∨ v'.ownBlock = some w.heap.size) → K (a.put o.dst v') w') :
    if Region.wanted o (yielded ops a.tmps) = true then Oper.wp P o a w K Q else E := by
  have hw : Region.wanted o (yielded ops a.tmps) = true := by simp [Region.wanted, hgd]
  rw [if_pos hw]
  obtain ⟨v', w', hr, h2, h3, _, h5⟩ := run_append_own_at (P := P) w base t o.type e i z size bytes ht hi hz hsize hby hzs hsz v n xs hown ad m c news hl hnews h1 h63 hbytes hbase
  unfold Oper.wp execOp
  simp only [ho, resolve, invoke, builtin, Sem.run_bind, Sem.run_pure, Result.andThen_ok, List.map_toArray, List.map_cons, List.map_nil, hs, hx, hr]
  exact h v' w' h2 h3 h5

theorem set_block {w : World} {b i : Nat} {cs : Array Value} {T : TypeId} {fr : Nat × Nat} (hb : w.heap[b]? = some (.cells cs T fr)) (v : Value) :
    (w.setCell ⟨b, i, none⟩ v).heap[b]? = some (.cells (cs.setIfInBounds i v) T fr) := by
  simp [World.setCell, Array.getElem?_modify, hb]

theorem ne_row {w : World} {base : Nat} {e : TypeId} {s n : Nat} {v : Value} {ys : List Value} (h : w.ownsRow base e s v n ys) {b : Nat} (hb : b < base) : v.ownBlock = none ∨ v.ownBlock ≠ some b := by
  cases e : v.ownBlock with
  | none => exact .inl rfl
  | some g => refine .inr (fun e2 => ?_); have := (h.lt g e).1; cases e2; omega

theorem row_shape {w : World} {base : Nat} {e : TypeId} {s n : Nat} {v : Value} {ys : List Value} (h : w.ownsRow base e s v n ys) : ∃ ao cap, v = .slice ao n cap := by
  rcases h.2 with ⟨hv, h0⟩ | ⟨g, cap, cur, hv, _⟩
  · exact ⟨none, 0, by rw [hv, h0]⟩
  · exact ⟨_, _, hv⟩

theorem set_grown (w : World) (p : Addr) (v : Value) : w.grownBy (w.setCell p v) (some p.block) :=
  ⟨rfl, rfl, rfl, by simp, fun k _ hk => Below.heap_setCell _ _ _ k (fun e => hk (by rw [e]))⟩

/-- what readArguments holds: the result's block, the struct's own block, its two slices -/
structure RInv (w wr : World) (vl vo : Value) (a : Args) : Prop where
  res : wr.heap[w.heap.size]? = some (.cells #[.string ByteArray.empty, .slice none 0 0, .slice none 0 0] 42)
  st : wr.heap[w.heap.size + 1]? = some (.cells #[.string a.flags, vl, vo] 42)
  l : Strs wr (w.heap.size + 2) vl a.long
  o : Strs wr (w.heap.size + 2) vo a.ops
  ap : Apart vl vo
  bel : Below w.heap.size w wr

theorem cells3 {w : World} {b : Nat} {x y z : Value} {t : TypeId} (h : w.heap[b]? = some (.cells #[x, y, z] t)) : w.cell? ⟨b, 0, none⟩ = some x ∧ w.cell? ⟨b, 1, none⟩ = some y ∧ w.cell? ⟨b, 2, none⟩ = some z ∧ w.frozen? ⟨b, 0, none⟩ = false ∧ w.frozen? ⟨b, 1, none⟩ = false ∧ w.frozen? ⟨b, 2, none⟩ = false := by
  simp [World.cell?, World.frozen?, h]


theorem RInv.lts {w wr : World} {vl vo : Value} {a : Args} (h : RInv w wr vl vo a) : w.heap.size + 1 < wr.heap.size := (Array.getElem?_eq_some_iff.1 h.st).1

theorem RInv.alloc {w wr : World} {vl vo : Value} {a : Args} (h : RInv w wr vl vo a) (o : Obj) : RInv w (wr.alloc o) vl vo a := by
  have h2 := h.lts
  exact ⟨(Below.heap_alloc wr o _ (by omega)).trans h.res, (Below.heap_alloc wr o _ (by omega)).trans h.st, h.l.alloc o, h.o.alloc o, h.ap, h.bel.alloc (by omega) o⟩

/-- a row of the struct's has grown: what lies beside it is as before -/
theorem RInv.mid {w wr w3 : World} {vl vo : Value} {a : Args} (h : RInv w wr vl vo a) {row : Option Nat} (hrow : ∀ g, row = some g → w.heap.size + 2 ≤ g) (hg : wr.grownBy w3 row) :
    w3.heap[w.heap.size]? = some (.cells #[.string ByteArray.empty, .slice none 0 0, .slice none 0 0] 42) ∧
    w3.heap[w.heap.size + 1]? = some (.cells #[.string a.flags, vl, vo] 42) ∧ Below w.heap.size w w3 := by
  have h2 := h.lts
  refine ⟨(hg.block _ (by omega) ?_).trans h.res, (hg.block _ (by omega) ?_).trans h.st, h.bel.grown hg (by omega) (fun g e => by have := hrow g e; omega)⟩
  · intro e; have := hrow _ e.symm; omega
  · intro e; have := hrow _ e.symm; omega

theorem RInv.op {w wr w3 : World} {vl vo v' : Value} {a : Args} {ys : List ByteArray} {n : Nat} (h : RInv w wr vl vo a) (hn : n = a.ops.length + ys.length)
    (hown : w3.ownsRow (w.heap.size + 2) 9 1 v' n (a.ops.map Value.string ++ ys.map Value.string)) (hg : wr.grownBy w3 vo.ownBlock)
    (hat : v'.ownBlock = vo.ownBlock ∨ v'.ownBlock = some wr.heap.size) : RInv w (w3.setCell ⟨w.heap.size + 1, 2, none⟩ v') vl v' ⟨a.flags, a.long, a.ops ++ ys⟩ := by
  obtain ⟨m1, m2, m3⟩ := h.mid (fun g e => (h.o.lt g e).1) hg
  have hl := h.ap.keep h.l hg
  refine ⟨(Below.heap_setCell _ _ _ _ (by show w.heap.size ≠ w.heap.size + 1; omega)).trans m1, ?_, hl.kept (set_grown _ _ _) ?_, ?_, ?_, m3.setCell (by show w.heap.size ≤ w.heap.size + 1; omega) _⟩
  · rw [set_block m2]; rfl
  · exact ne_row h.l (Nat.lt_succ_self _)
  · unfold Strs
    rw [List.map_append, List.length_append, ← hn]
    refine hown.kept (set_grown _ _ _) ?_
    exact ne_row hown (Nat.lt_succ_self _)
  · exact h.ap.after hat (fun g hg => (h.l.lt g hg).2)

theorem RInv.lng {w wr w3 : World} {vl vo v' : Value} {a : Args} {ys : List ByteArray} {n : Nat} (h : RInv w wr vl vo a) (hn : n = a.long.length + ys.length)
    (hown : w3.ownsRow (w.heap.size + 2) 9 1 v' n (a.long.map Value.string ++ ys.map Value.string)) (hg : wr.grownBy w3 vl.ownBlock)
    (hat : v'.ownBlock = vl.ownBlock ∨ v'.ownBlock = some wr.heap.size) : RInv w (w3.setCell ⟨w.heap.size + 1, 1, none⟩ v') v' vo ⟨a.flags, a.long ++ ys, a.ops⟩ := by
  obtain ⟨m1, m2, m3⟩ := h.mid (fun g e => (h.l.lt g e).1) hg
  have ho := h.ap.symm.keep h.o hg
  refine ⟨(Below.heap_setCell _ _ _ _ (by show w.heap.size ≠ w.heap.size + 1; omega)).trans m1, ?_, ?_, ho.kept (set_grown _ _ _) ?_, ?_, m3.setCell (by show w.heap.size ≤ w.heap.size + 1; omega) _⟩
  · rw [set_block m2]; rfl
  · unfold Strs
    rw [List.map_append, List.length_append, ← hn]
    refine hown.kept (set_grown _ _ _) ?_
    exact ne_row hown (Nat.lt_succ_self _)
  · exact ne_row h.o (Nat.lt_succ_self _)
  · exact (h.ap.symm.after hat (fun g hg => (h.o.lt g hg).2)).symm

theorem RInv.flg {w wr : World} {vl vo : Value} {a : Args} (h : RInv w wr vl vo a) (f : ByteArray) : RInv w (wr.setCell ⟨w.heap.size + 1, 0, none⟩ (.string f)) vl vo ⟨f, a.long, a.ops⟩ := by
  refine ⟨(Below.heap_setCell _ _ _ _ (by show w.heap.size ≠ w.heap.size + 1; omega)).trans h.res, ?_, h.l.kept (set_grown _ _ _) ?_, h.o.kept (set_grown _ _ _) ?_, h.ap, h.bel.setCell (by show w.heap.size ≤ w.heap.size + 1; omega) _⟩
  · rw [set_block h.st]; rfl
  · exact ne_row h.l (Nat.lt_succ_self _)
  · exact ne_row h.o (Nat.lt_succ_self _)

theorem RInv.drew {w wr : World} {vl vo : Value} {a : Args} (h : RInv w wr vl vo a) : RInv w wr.drew vl vo a := ⟨h.res, h.st, h.l, h.o, h.ap, h.bel.drew⟩

/-- what readArguments hands back -/
def RAns (a : Args) (w : World) (e : Ending) (w' : World) : Prop := ∃ vl vo, e = .returned (.agg #[.string a.flags, vl, vo]) ∧ Strs w' (w.heap.size + 2) vl a.long ∧ Strs w' (w.heap.size + 2) vo a.ops ∧ Apart vl vo ∧ Below w.heap.size w w'

theorem RInv.done {w wr : World} {vl vo : Value} {a : Args} (h : RInv w wr vl vo a) :
    ∃ W, ((wr.setCell ⟨w.heap.size, 0, none⟩ (.string a.flags)).setCell ⟨w.heap.size, 1, none⟩ vl).setCell ⟨w.heap.size, 2, none⟩ vo = W ∧
      (W.cell? ⟨w.heap.size, 0, none⟩ = some (.string a.flags) ∧ W.cell? ⟨w.heap.size, 1, none⟩ = some vl ∧ W.cell? ⟨w.heap.size, 2, none⟩ = some vo) ∧
      Strs W (w.heap.size + 2) vl a.long ∧ Strs W (w.heap.size + 2) vo a.ops ∧ Apart vl vo ∧ Below w.heap.size w W := by
  refine ⟨_, rfl, ?_, ?_, ?_, h.ap, ((h.bel.setCell (Nat.le_refl _) _).setCell (Nat.le_refl _) _).setCell (Nat.le_refl _) _⟩
  · have e := set_block (i := 2) (set_block (i := 1) (set_block (i := 0) h.res (.string a.flags)) vl) vo
    exact ⟨(cells3 (x := .string a.flags) (y := vl) (z := vo) e).1, (cells3 (x := .string a.flags) (y := vl) (z := vo) e).2.1, (cells3 (x := .string a.flags) (y := vl) (z := vo) e).2.2.1⟩
  · exact (((h.l.kept (set_grown _ _ _) (ne_row h.l (Nat.lt_add_of_pos_right (by decide)))).kept (set_grown _ _ _) (ne_row h.l (Nat.lt_add_of_pos_right (by decide)))).kept (set_grown _ _ _) (ne_row h.l (Nat.lt_add_of_pos_right (by decide))))
  · exact (((h.o.kept (set_grown _ _ _) (ne_row h.o (Nat.lt_add_of_pos_right (by decide)))).kept (set_grown _ _ _) (ne_row h.o (Nat.lt_add_of_pos_right (by decide)))).kept (set_grown _ _ _) (ne_row h.o (Nat.lt_add_of_pos_right (by decide))))

set_option maxHeartbeats 1000000 in
theorem read_any (xs : List ByteArray) (va : Value) (w : World) (hl : xs.length ≤ 1048576) (ht : total (xs.map (·.data.toList)) ≤ 2097152) (ha : Sl w va xs) :
    Calls Tryd.prog 24 #[va] w fun e w' => RAns (argsB xs) w e w' := by
  obtain ⟨i0, hi0, hz0, hz1, hz2⟩ := info_parts Tryd.info9
  have HI0 : Hid (Tryd.prog.info? 9 = some i0 ∧ i0.zero = some (.string ByteArray.empty) ∧ i0.size = 1 ∧ i0.bytes = 16) := ⟨hi0, hz0, hz1, hz2⟩
  clear hi0 hz0 hz1 hz2
  obtain ⟨ao, ca, rfl, hca, hma, hxa⟩ := ha
  go_enter Tryd.func24, Tryd.ntmps24
  go_wp2_with fail
  go_loopw [8] (fun i wr => ∃ (k : Nat) (vl vo : Value), k ≤ xs.length ∧ k ≤ endAt xs ∧ i = .int .i64 k ∧ RInv w wr vl vo (argFold (xs.take k))) (fun i _ => xs.length - (intOf i).toNat)
  case atStart =>
    refine ⟨0, .slice none 0 0, .slice none 0 0, Nat.zero_le _, Nat.zero_le _, rfl, ?_⟩
    rw [List.take_zero]
    refine ⟨(Below.heap_alloc _ _ _ (by simp)).trans (heap_alloc_new _ _), (by have := heap_alloc_new (w.alloc (.cells #[.string ByteArray.empty, .slice none 0 0, .slice none 0 0] 42)) (.cells #[.string ByteArray.empty, .slice none 0 0, .slice none 0 0] 42); rw [World.size_alloc] at this; exact this), World.ownsRow_nil _ _ _ _, World.ownsRow_nil _ _ _ _, apart_nil _, ((Below.refl _ _).alloc (Nat.le_refl _) _).alloc (by simp) _⟩
  case round =>
    obtain ⟨k, vl, vo, hk, hkE, rfl, hV⟩ := hrel
    have hsm := argFold_take_small xs k
    obtain ⟨a, ha⟩ : ∃ a, argFold (xs.take k) = a := ⟨_, rfl⟩
    rw [ha] at hV hsm
    have HA : Hid (argFold (xs.take k) = a) := ha
    have HV : Hid (RInv w wr vl vo a) := hV
    have HB : Hid (a.flags.size + a.long.length + a.ops.length ≤ 2097152) := Nat.le_trans hsm ht
    have hzr : Hid (w.heap.size ≤ wr.heap.size) := hV.bel.size
    obtain ⟨f0, f1, f2, g0, g1, g2⟩ := cells3 hV.st
    have hlt1 : w.heap.size + 1 < wr.heap.size := (Array.getElem?_eq_some_iff.1 hV.st).1
    obtain ⟨nl, cl, hvl⟩ : ∃ ao cap, vl = .slice ao a.long.length cap := by obtain ⟨x, y, h, _⟩ := hV.l.sl; exact ⟨x, y, h⟩
    obtain ⟨no, co, hvo⟩ : ∃ ao cap, vo = .slice ao a.ops.length cap := by obtain ⟨x, y, h, _⟩ := hV.o.sl; exact ⟨x, y, h⟩
    subst hvl hvo
    clear hV hsm ha
    by_cases hlt : k < xs.length
    · obtain ⟨b1, o1, rfl, c1⟩ := Sl.at hxa hlt
      obtain ⟨x, hx⟩ : ∃ x, xs[k] = x := ⟨_, rfl⟩
      rw [hx] at c1
      have HX : Hid (xs[k] = x) := hx
      have c2 := (HV.out.bel.cell (World.block_lt_of_cell? w _ c1)).trans c1
      clear hx
      by_cases hdd : isDD x = true
      · rw [← isDD_walk] at hdd
        have hk1 : (k : Int) + 1 ≤ (xs.length : Int) := by omega
        have hEk : endAt xs = k := by
          refine Nat.le_antisymm ?_ hkE
          rcases Nat.lt_or_ge k (endAt xs) with h | h
          · exfalso
            have := endAt_before xs k h hlt
            rw [HX.out] at this
            rw [isDD_walk] at hdd
            rw [hdd] at this
            cases this
          · exact h
        obtain ⟨A, hA, hnews⟩ : ∃ A, (if ca = k + 1 then some (⟨b1, o1, none⟩ : Addr) else some ⟨b1, o1 + (k + 1), none⟩) = some A ∧ Hid (∀ j u, ((xs.drop (k + 1)).map Value.string)[j]? = some u → wr.drew.cell? (A.add j) = some u) := by
          obtain ⟨b, off, e, hc⟩ := hxa (by omega)
          cases e
          by_cases h : ca = k + 1
          · refine ⟨⟨b1, o1, none⟩, by simp [h], ?_⟩
            intro j u hu
            rw [List.drop_of_length_le (by omega)] at hu
            simp at hu
          · refine ⟨⟨b1, o1 + (k + 1), none⟩, by simp [h], ?_⟩
            intro j u hu
            rw [List.getElem?_map, Option.map_eq_some_iff] at hu
            obtain ⟨y, hy, rfl⟩ := hu
            rw [List.getElem?_drop] at hy
            rw [Go.WideShapes.add_plain, show o1 + (k + 1) + j = o1 + (k + 1 + j) by omega]
            have c := hc _ _ hy
            exact (HV.out.bel.drew.cell (World.block_lt_of_cell? w _ c)).trans c
        have HL : Hid (((xs.drop (k + 1)).map Value.string).length = (xs.length - (k + 1)) * 1) := by show _ = _; simp
        have HO : Hid (∀ u ∈ (xs.drop (k + 1)).map Value.string, u.oneCell' = true) := by intro u hu; obtain ⟨y, _, rfl⟩ := List.mem_map.1 hu; rfl
        have HVd : Hid (RInv w wr.drew (Value.slice nl a.long.length cl) (Value.slice no a.ops.length co) a) := HV.out.drew
        have hwr : IntKind.i64.wrap ((k : Int) + 1) = (k : Int) + 1 := by rw [IntKind.wrap_i64]; omega
        have hp0 : (0 : Int) ≤ (k : Int) + 1 := by omega
        have hp2 : ((k : Int) + 1).toNat = k + 1 := by omega
        have hic : k ≤ ca := by omega
        clear hxa c1
        go_wp2_with fail
        go_region_law (refine step_append_at rfl (.tmp 16) (.tmp 20) 22 rfl (w.heap.size + 2) 9 i0 (.string ByteArray.empty) 1 16 Tryd.underlying22 HI0.out.1 HI0.out.2.1 HI0.out.2.2.1 HI0.out.2.2.2 rfl (by decide) (Value.slice no a.ops.length co) a.ops.length (a.ops.map Value.string) (by simp [Act.eval]) HVd.out.o A (xs.length - (k + 1)) (ca - (k + 1)) ((xs.drop (k + 1)).map Value.string) (by simp [Act.eval]) HL.out hnews.out HO.out (by have := HB.out; unfold maxLen; omega) (by have := HB.out; omega) (by have := hzr.out; have := hlt1; simp; omega) ?_; intro v' w3 hown hgrow hat; obtain ⟨n0, n1, n2⟩ := HVd.out.mid (fun g e => (HVd.out.o.lt g e).1) hgrow; obtain ⟨q0, q1, q2, s0, s1, s2⟩ := cells3 n1; have HN : Hid (RInv w (w3.setCell ⟨w.heap.size + 1, 2, none⟩ v') _ v' ⟨a.flags, a.long, a.ops ++ xs.drop (k + 1)⟩) := HVd.out.op (by simp) hown hgrow hat; obtain ⟨nv, cv, hvv⟩ := row_shape hown; subst hvv; clear hown hgrow hat n0 n1 n2)
        have HR : Hid (argsB xs = ⟨a.flags, a.long, a.ops ++ xs.drop (k + 1)⟩) := by show _ = _; rw [argsB_eq, hEk, HA.out]
        obtain ⟨r0, r1, r2, t0, t1, t2⟩ := cells3 HN.out.res
        obtain ⟨z0, z1, z2, y0, y1, y2⟩ := cells3 HN.out.st
        obtain ⟨W, hW, ⟨Q0, Q1, Q2⟩, QA⟩ := HN.out.done
        obtain ⟨w5, hw5⟩ : ∃ w5, w3.setCell ⟨w.heap.size + 1, 2, none⟩ (Value.slice nv (a.ops.length + (xs.length - (k + 1))) cv) = w5 := ⟨_, rfl⟩
        rw [hw5] at r0 r1 r2 t0 t1 t2 z0 z1 z2 y0 y1 y2 hW ⊢
        clear q0 q1 q2 s0 s1 s2 f0 f1 f2 g0 g1 g2
        go_wp2_with fail
        exact bodyPost_ret (v := .agg #[.string a.flags, Value.slice nl a.long.length cl, Value.slice nv (a.ops.length + (xs.length - (k + 1))) cv]) (by simp [results, Tryd.results24, go_sem, Q0, Q1, Q2]) rfl (by rw [HR.out]; exact ⟨_, _, rfl, QA⟩)
      · have hd : isDD x = false := by simpa using hdd
        have hkE1 : k + 1 ≤ endAt xs := by
          rcases Nat.lt_or_ge k (endAt xs) with h | h
          · exact h
          · exfalso
            have e : endAt xs = k := by omega
            have := endAt_at xs (by omega)
            simp only [e, HX.out, hd] at this
            cases this
        rw [← isDD_walk] at hd
        clear hdd c1
        cases p2 : pre2 x with
        | true =>
          have HS : Hid (argFold (xs.take (k + 1)) = ⟨a.flags, a.long ++ [x], a.ops⟩) := by show _ = _; rw [argFold_take xs k hlt, HX.out, HA.out]; exact step_long _ _ p2
          go_wp2_with fail
          refine (Tryd.strings_HasPrefix _ _ _).mono ?_
          rintro e wr ⟨rfl, rfl⟩
          have p2' : Lib.hasPrefix x.data.toList [45, 45] = true := p2
          go_wp2_with (at_builtin; refine wpList_append_own_at _ rfl _ _ 22 rfl (w.heap.size + 2) 9 i0 (.string ByteArray.empty) 1 16 Tryd.underlying22 HI0.out.1 HI0.out.2.1 HI0.out.2.2.1 HI0.out.2.2.2 rfl (by decide) _ _ _ rfl (HV.out.l.alloc _) ⟨wr.heap.size, 0, none⟩ 1 1 [.string x] rfl rfl (cell_one_new _ _ _) (by intro u hu; simp at hu; subst hu; rfl) (by have := HB.out; unfold maxLen; omega) (by have := HB.out; omega) (by have := hzr.out; simp; omega) ?_)
          intro v' w3 hown hgrow _ hat
          obtain ⟨n0, n1, n2⟩ := (HV.out.alloc _).mid (fun g e => (HV.out.l.lt g e).1) hgrow
          obtain ⟨q0, q1, q2, s0, s1, s2⟩ := cells3 n1
          have HN : Hid (RInv w (w3.setCell ⟨w.heap.size + 1, 1, none⟩ v') v' _ ⟨a.flags, a.long ++ [x], a.ops⟩) := (HV.out.alloc _).lng (ys := [x]) rfl hown hgrow (by simpa using hat)
          obtain ⟨nv, cv, hvv⟩ : ∃ ao cap, v' = .slice ao (a.long.length + 1) cap := by obtain ⟨x, y, h, _⟩ := HN.out.l.sl; exact ⟨x, y, by simpa using h⟩
          clear hown hgrow hat n0 n1 n2
          subst hvv
          go_wp2_with fail
          go_roundw
          case rel => exact ⟨k + 1, _, _, by omega, hkE1, by go_num, by rw [HS.out]; exact HN.out⟩
          case measure => simp [intOf]; omega
        | false =>
          cases p1 : pre1 x with
          | true =>
            have HS : Hid (argFold (xs.take (k + 1)) = ⟨a.flags ++ x.extract 1 x.size, a.long, a.ops⟩) := by show _ = _; rw [argFold_take xs k hlt, HX.out, HA.out]; exact step_flag _ _ p2 p1
            have hno : ¬ 9223372036854775807 < a.flags.size + (x.size - 1) := by have h1 := size_total xs k hlt; have h2 := HB.out; rw [HX.out] at h1; omega
            have hx1 : (1 : Int) ≤ (x.size : Int) := by obtain ⟨h, _⟩ := (pre1_iff x).1 p1; omega
            go_wp2_with fail
            refine (Tryd.strings_HasPrefix _ _ _).mono ?_
            rintro e wr ⟨rfl, rfl⟩
            have p2' : Lib.hasPrefix x.data.toList [45, 45] = false := p2
            go_wp2_with fail
            refine (Tryd.strings_HasPrefix _ _ _).mono ?_
            rintro e wr ⟨rfl, rfl⟩
            have p1' : Lib.hasPrefix x.data.toList [45] = true := p1
            have HN : Hid (RInv w (wr.setCell ⟨w.heap.size + 1, 0, none⟩ (.string (a.flags ++ x.extract 1 x.size))) _ _ ⟨a.flags ++ x.extract 1 x.size, a.long, a.ops⟩) := HV.out.flg (a.flags ++ x.extract 1 x.size)
            go_wp2_with fail
            go_region
            go_wp2_with fail
            go_roundw
            case rel => exact ⟨k + 1, _, _, by omega, hkE1, by go_num, by rw [HS.out]; exact HN.out.drew⟩
            case measure => simp [intOf]; omega
          | false =>
            have HS : Hid (argFold (xs.take (k + 1)) = ⟨a.flags, a.long, a.ops ++ [x]⟩) := by show _ = _; rw [argFold_take xs k hlt, HX.out, HA.out]; exact step_op _ _ p2 p1
            go_wp2_with fail
            refine (Tryd.strings_HasPrefix _ _ _).mono ?_
            rintro e wr ⟨rfl, rfl⟩
            have p2' : Lib.hasPrefix x.data.toList [45, 45] = false := p2
            go_wp2_with fail
            refine (Tryd.strings_HasPrefix _ _ _).mono ?_
            rintro e wr ⟨rfl, rfl⟩
            have p1' : Lib.hasPrefix x.data.toList [45] = false := p1
            go_wp2_with (at_builtin; refine wpList_append_own_at _ rfl _ _ 22 rfl (w.heap.size + 2) 9 i0 (.string ByteArray.empty) 1 16 Tryd.underlying22 HI0.out.1 HI0.out.2.1 HI0.out.2.2.1 HI0.out.2.2.2 rfl (by decide) _ _ _ rfl (HV.out.o.alloc _) ⟨wr.heap.size, 0, none⟩ 1 1 [.string x] rfl rfl (cell_one_new _ _ _) (by intro u hu; simp at hu; subst hu; rfl) (by have := HB.out; unfold maxLen; omega) (by have := HB.out; omega) (by have := hzr.out; simp; omega) ?_)
            intro v' w3 hown hgrow _ hat
            obtain ⟨n0, n1, n2⟩ := (HV.out.alloc _).mid (fun g e => (HV.out.o.lt g e).1) hgrow
            obtain ⟨q0, q1, q2, s0, s1, s2⟩ := cells3 n1
            have HN : Hid (RInv w (w3.setCell ⟨w.heap.size + 1, 2, none⟩ v') _ v' ⟨a.flags, a.long, a.ops ++ [x]⟩) := (HV.out.alloc _).op (ys := [x]) rfl hown hgrow (by simpa using hat)
            obtain ⟨nv, cv, hvv⟩ : ∃ ao cap, v' = .slice ao (a.ops.length + 1) cap := by obtain ⟨x, y, h, _⟩ := HN.out.o.sl; exact ⟨x, y, by simpa using h⟩
            clear hown hgrow hat n0 n1 n2
            subst hvv
            go_wp2_with fail
            go_roundw
            case rel => exact ⟨k + 1, _, _, by omega, hkE1, by go_num, by rw [HS.out]; exact HN.out⟩
            case measure => simp [intOf]; omega
    · obtain rfl : k = xs.length := by omega
      have HR : Hid (argsB xs = a) := by
        show _ = _
        have e : endAt xs = xs.length := Nat.le_antisymm (endAt_le xs) hkE
        rw [argsB_eq, e, HA.out, List.drop_of_length_le (by omega), List.append_nil]
      obtain ⟨r0, r1, r2, t0, t1, t2⟩ := cells3 HV.out.res
      go_wp2_with fail
      obtain ⟨W, hW, ⟨q0, q1, q2⟩, QA⟩ := HV.out.done
      rw [hW]
      exact bodyPost_ret (v := .agg #[.string a.flags, Value.slice nl a.long.length cl, Value.slice no a.ops.length co]) (by simp [results, Tryd.results24, go_sem, q0, q1, q2]) rfl (by rw [HR.out]; exact ⟨_, _, rfl, QA⟩)

end Go.Proofs.Qxb6628254aDoor
