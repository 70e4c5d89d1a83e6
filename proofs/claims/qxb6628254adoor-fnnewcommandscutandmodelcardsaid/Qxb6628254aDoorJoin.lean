import Derived.Test.Qxb6628254aDoorClone
namespace Go.Proofs.Qxb6628254aDoor
open Go.RowKit

theorem Tryd.info5 : (Tryd.prog.info? 5).map (fun i => (i.zero, i.size, i.bytes)) = some (some (.int .u8 0), 1, 1) := by kernel_rfl

def bcells (l : List UInt8) : List Value := l.map fun b => Value.int .u8 b.toNat
theorem bcells_length (l : List UInt8) : (bcells l).length = l.length := by simp [bcells]
theorem bcells_append (a b : List UInt8) : bcells (a ++ b) = bcells a ++ bcells b := by simp [bcells]

/-- a slice of bytes that the call has built -/
def Byts (w : World) (base : Nat) (v : Value) (l : List UInt8) : Prop := w.ownsRow base 5 1 v l.length (bcells l)

theorem conv_owned {w : World} {base : Nat} {v : Value} {l : List UInt8} (h : Byts w base v l) : (convert 50 9 v).run Tryd.prog w = .ok (.string (toB l)) w := by
  rcases h.2 with ⟨rfl, h0⟩ | ⟨g, cap, cur, rfl, hg, hh, hnc, hcm, hcs, htk⟩
  · have : l = [] := List.eq_nil_of_length_eq_zero h0
    subst this
    exact run_convert_bytes_nil w 50 5 Tryd.underlying50 Tryd.underlying5 0 0 9 Tryd.underlying9
  · refine run_convert_bytes_back w 50 9 5 ⟨g, 0, none⟩ cap l Tryd.underlying50 Tryd.underlying5 Tryd.underlying9 (fun j hj => ?_)
    refine h.cells (g := g) rfl j _ ?_
    simp [bcells, hj]

/-- behind 'append(b, x)' of one byte or of a string's bytes -/
theorem Byts.step {wx wr wa w' : World} {base : Nat} {v v' : Value} {l m : List UInt8} (h : Byts wr base v l) (hb : Below base wx wa) (hwa : base ≤ wa.heap.size)
    (hown : w'.ownsRow base 5 1 v' (l.length + m.length) (bcells l ++ bcells m)) (hg : wa.grownBy w' v.ownBlock) : Byts w' base v' (l ++ m) ∧ Below base wx w' := by
  refine ⟨?_, hb.grown hg hwa (fun k hk => (h.lt k hk).1)⟩
  unfold Byts
  rw [List.length_append, bcells_append]
  exact hown

/-- the text of the first k words -/
def accJ (xs : List ByteArray) (k : Nat) : List UInt8 := Lib.join ((xs.take k).map (·.data.toList)) [32]

theorem accJ_zero (xs : List ByteArray) : accJ xs 0 = [] := by simp [accJ, Lib.join_nil]

theorem accJ_one (xs : List ByteArray) (h : 0 < xs.length) : accJ xs 1 = xs[0].data.toList := by
  unfold accJ
  rw [List.take_succ_eq_append_getElem h]
  simp [Lib.join_one]

theorem accJ_succ (xs : List ByteArray) (k : Nat) (h0 : 0 < k) (hk : k < xs.length) : accJ xs (k + 1) = accJ xs k ++ [32] ++ xs[k].data.toList := by
  match xs, hk with
  | x :: r, hk =>
    unfold accJ
    obtain ⟨j, rfl⟩ : ∃ j, k = j + 1 := ⟨k - 1, by omega⟩
    have hj : j < r.length := by simpa using hk
    simp only [List.take_succ_cons, List.map_cons, Lib.join_cons, List.map_take]
    rw [Lib.joinTail_take_succ [32] (r.map (·.data.toList)) j r[j].data.toList (by simp [hj])]
    simp

theorem total_take (xs : List (List UInt8)) (k : Nat) : total (xs.take k) ≤ total xs := by
  rw [← List.take_append_drop k xs, total_append]
  simp

theorem accJ_len (xs : List ByteArray) (k : Nat) : (accJ xs k).length ≤ total (xs.map (·.data.toList)) := by
  unfold accJ
  have h1 := join_length ((xs.take k).map (·.data.toList))
  have h2 := total_take (xs.map (·.data.toList)) k
  rw [← List.map_take] at h2
  omega

theorem accJ_all (xs : List ByteArray) : toB (accJ xs xs.length) = joinB xs := by
  unfold accJ joinB
  rw [List.take_length]

theorem size_total (xs : List ByteArray) (k : Nat) (hk : k < xs.length) : xs[k].size ≤ total (xs.map (·.data.toList)) := by
  have h := mem_total (w := xs[k].data.toList) (ws := xs.map (·.data.toList)) (List.mem_map.2 ⟨_, List.getElem_mem _, rfl⟩)
  rw [Array.length_toList] at h
  have e : xs[k].data.size = xs[k].size := rfl
  omega

theorem data_len (x : ByteArray) : x.data.toList.length = x.size := by rw [Array.length_toList]; rfl

structure Jk (w wr : World) (v : Value) (xs : List ByteArray) (k : Nat) : Prop where
  row : Byts wr w.heap.size v (accJ xs k)
  bel : Below w.heap.size w wr

set_option maxHeartbeats 400000 in
theorem join_any (xs : List ByteArray) (va : Value) (w : World) (hl : xs.length ≤ 2097152) (ht : total (xs.map (·.data.toList)) ≤ 2097152) (ha : Sl w va xs) :
    Calls Tryd.prog 17 #[va] w fun e w' => e = .returned (.string (joinB xs)) ∧ Below w.heap.size w w' := by
  obtain ⟨i0, hi0, hz0, hz1, hz2⟩ := info_parts Tryd.info5
  have HI0 : Hid (Tryd.prog.info? 5 = some i0 ∧ i0.zero = some (.int .u8 0) ∧ i0.size = 1 ∧ i0.bytes = 1) := ⟨hi0, hz0, hz1, hz2⟩
  clear hi0 hz0 hz1 hz2
  obtain ⟨ao, ca, rfl, hca, hma, hxa⟩ := ha
  have hst : Hid (Jk w w (.slice none 0 0) xs 0) := ⟨by rw [accJ_zero]; exact World.ownsRow_nil _ _ _ _, Below.refl _ _⟩
  go_enter Tryd.func17, Tryd.ntmps17
  go_wp2_with fail
  go_loopw [3, 4] (fun v i wr => ∃ k : Nat, k ≤ xs.length ∧ i = .int .i64 k ∧ Jk w wr v xs k) (fun _ i _ => xs.length - (intOf i).toNat)
  case atStart => exact ⟨0, Nat.zero_le _, rfl, hst.out⟩
  case round =>
    clear hst
    obtain ⟨k, hk, rfl, hJ⟩ := hrel
    have HJ : Hid (Jk w wr _ xs k) := hJ
    have hzr : Hid (w.heap.size ≤ wr.heap.size) := hJ.bel.size
    clear hJ
    have HL : Hid ((accJ xs k).length ≤ 2097152) := Nat.le_trans (accJ_len xs k) ht
    by_cases hlt : k < xs.length
    · obtain ⟨b1, o1, rfl, c1⟩ := Sl.at hxa hlt
      have HS : Hid (xs[k].size ≤ 2097152) := Nat.le_trans (size_total xs k hlt) ht
      obtain ⟨x, hx⟩ : ∃ x, xs[k] = x := ⟨_, rfl⟩
      rw [hx] at c1 HS
      have HX : Hid (xs[k] = x) := hx
      have hbl := World.block_lt_of_cell? w _ c1
      clear hx hxa
      by_cases h0 : k = 0
      · -- the first word
        subst h0
        have c2 := (HJ.out.bel.cell hbl).trans c1
        rw [Nat.add_zero] at c2
        clear c1
        go_wp2_with (at_builtin; (refine Lib.wpList_append_own_string _ rfl _ _ 50 9 rfl w.heap.size 5 i0 Tryd.underlying50 Tryd.underlying9 HI0.out.1 HI0.out.2.1 HI0.out.2.2.1 HI0.out.2.2.2 _ _ _ rfl HJ.out.row x rfl ?p1 ?p2 ?p3 ?_))
        case p1 => have := HL.out; have := HS.out; unfold maxLen; omega
        case p2 => have := HL.out; have := HS.out; omega
        case p3 => exact hzr.out
        intro v' w3 hown hgrow _
        have hN := HJ.out.row.step (m := x.data.toList) HJ.out.bel hzr.out (by rw [Array.length_toList]; exact hown) hgrow
        have HN : Hid (Jk w w3 v' xs (0 + 1)) := by
          refine ⟨?_, hN.2⟩
          rw [accJ_one xs hlt, HX.out]
          have := hN.1
          rwa [accJ_zero, List.nil_append] at this
        clear hown hgrow hN
        go_wp2_with fail
        go_roundw
        case rel => exact ⟨0 + 1, by omega, by go_num, HN.out⟩
        case measure => simp [intOf]; omega
      · -- a blank, and the next
        have hk0 : (0 : Int) < (k : Int) := by omega
        go_wp2_with (at_builtin; refine wpList_append_own _ rfl (.tmp 13) (.tmp 14) 50 rfl w.heap.size 5 i0 (.int .u8 0) 1 1 Tryd.underlying50 HI0.out.1 HI0.out.2.1 HI0.out.2.2.1 HI0.out.2.2.2 rfl (by decide) _ _ _ rfl (HJ.out.row.alloc _) ⟨wr.heap.size, 0, none⟩ 1 1 [.int .u8 32] rfl rfl (cell_one_new _ _ _) (by intro u hu; simp at hu; subst hu; rfl) (by have := HL.out; unfold maxLen; omega) (by have := HL.out; omega) (by have := hzr.out; simp; omega) ?_)
        intro v' w3 hown hgrow _
        have hN := HJ.out.row.step (m := [32]) (HJ.out.bel.alloc hzr.out _) (by have := hzr.out; simp; omega) hown hgrow
        have HN : Hid (Byts w3 w.heap.size v' (accJ xs k ++ [32]) ∧ Below w.heap.size w w3) := hN
        have hz3 : Hid (w.heap.size ≤ w3.heap.size) := hN.2.size
        have c2 := (hN.2.cell hbl).trans c1
        clear hown hgrow hN c1
        go_wp2_with (at_builtin; refine Lib.wpList_append_own_string _ rfl _ _ 50 9 rfl w.heap.size 5 i0 Tryd.underlying50 Tryd.underlying9 HI0.out.1 HI0.out.2.1 HI0.out.2.2.1 HI0.out.2.2.2 _ _ _ rfl HN.out.1 x rfl ?r1 ?r2 ?r3 ?_)
        case r1 => have := HL.out; have := HS.out; unfold maxLen; simp; omega
        case r2 => have := HL.out; have := HS.out; simp; omega
        case r3 => exact hz3.out
        intro v2 w4 hown hgrow _
        have hN4 := HN.out.1.step (v' := v2) (m := x.data.toList) HN.out.2 hz3.out (by rw [data_len x, List.length_append]; exact hown) hgrow
        have HN4 : Hid (Jk w w4 v2 xs (k + 1)) := by
          refine ⟨?_, hN4.2⟩
          rw [accJ_succ xs k (by omega) hlt, HX.out]
          exact hN4.1
        clear hown hgrow hN4
        go_wp2_with fail
        go_roundw
        case rel => exact ⟨k + 1, by omega, by go_num, HN4.out⟩
        case measure => simp [intOf]; omega
    · obtain rfl : k = xs.length := by omega
      have hcv := conv_owned HJ.out.row
      rw [accJ_all] at hcv
      go_wp2_with fail
      go_ret
      exact ⟨rfl, HJ.out.bel⟩

end Go.Proofs.Qxb6628254aDoor
