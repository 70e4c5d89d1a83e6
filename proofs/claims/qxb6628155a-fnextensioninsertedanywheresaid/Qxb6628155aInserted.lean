import Derived.Test.Qxb6628155aZi
namespace Go.Proofs.Qxb6628155a
open Go.RowKit Go.Deep

theorem hid {p : Prop} (h : p) : Hid p := h

/-- the blocks of the joined list: those before k, the new one, those from k on -/
def jn (E : Nat → Nat) (k x : Nat) (i : Nat) : Nat := if i < k then E i else if i = k then x else E (i - 1)
/-- likewise their names -/
def jnS (S : Nat → ByteArray) (k : Nat) (s : ByteArray) (i : Nat) : ByteArray := if i < k then S i else if i = k then s else S (i - 1)

def ptrs (J : Nat → Nat) (m : Nat) : List Value := (List.range m).map fun j => .pointer (some ⟨J j, 0, none⟩)

theorem ptrs_succ (J : Nat → Nat) (m : Nat) : ptrs J (m + 1) = ptrs J m ++ [.pointer (some ⟨J m, 0, none⟩)] := by simp [ptrs, List.range_succ]

structure Joined (wx wr : World) (v : Value) (m : Nat) (J : Nat → Nat) : Prop where
  row : wr.ownsRow wx.heap.size 27 1 v m (ptrs J m)
  bel : Below wx.heap.size wx wr

theorem joined_start (wx : World) (n : Nat) (hn : n ≤ 1048577) (J : Nat → Nat) : Joined wx (wx.alloc (.cells (madeCells #[.pointer none] n) 27)) (.slice (some ⟨wx.heap.size, 0, none⟩) 0 n) 0 J :=
  ⟨World.ownsRow_made wx _ n (Nat.le_refl _) (by unfold maxLen; omega) (by simp [size_madeCells]), (Below.refl _ _).alloc (Nat.le_refl _) _⟩

theorem joined_step {wx wr w' : World} {v v' : Value} {m : Nat} {J : Nat → Nat} {o : Obj} (h : Joined wx wr v m J)
    (hown : w'.ownsRow wx.heap.size 27 1 v' (m + 1) (ptrs J m ++ [.pointer (some ⟨J m, 0, none⟩)])) (hg : (wr.alloc o).grownBy w' v.ownBlock) : Joined wx w' v' (m + 1) J := by
  have hz := h.bel.size
  refine ⟨by rw [ptrs_succ]; exact hown, (h.bel.alloc hz o).grown hg (by simp; omega) (fun k hk => (h.row.lt k hk).1)⟩

theorem isList_cmdW {w : World} {la : Option Addr} {n : Nat} {E : Nat → Nat} {S L : Nat → ByteArray} (h : IsList w la n E S L) (u : Value) : IsList (cmdW w u) la n E S L := by
  intro hn
  obtain ⟨b, off, e, hc⟩ := h hn
  refine ⟨b, off, e, fun i hi => ?_⟩
  obtain ⟨c, d⟩ := hc i hi
  refine ⟨(cmdW_old (World.block_lt_of_cell? w _ c)).trans c, (Below.heap_alloc w _ (E i) (Array.getElem?_eq_some_iff.1 d).1).trans d⟩

theorem isList_bel {B : Nat} {w w' : World} {la : Option Addr} {n : Nat} {E : Nat → Nat} {S L : Nat → ByteArray} (hw : w.heap.size ≤ B) (h : IsList w la n E S L) (hb : Below B w w') : IsList w' la n E S L := by
  intro hn
  obtain ⟨b, off, e, hc⟩ := h hn
  refine ⟨b, off, e, fun i hi => ?_⟩
  obtain ⟨c, d⟩ := hc i hi
  have h1 := World.block_lt_of_cell? w _ c
  have h2 := (Array.getElem?_eq_some_iff.1 d).1
  refine ⟨(hb.cell (p := ⟨b, off + i, none⟩) (by simp at h1 ⊢; omega)).trans c, (hb.block (E i) (by omega)).trans d⟩

theorem isList_less {w : World} {la : Option Addr} {n m : Nat} {E : Nat → Nat} {S L : Nat → ByteArray} (h : IsList w la n E S L) (hm : m ≤ n) : IsList w la m E S L := by
  intro h0
  obtain ⟨b, off, e, hc⟩ := h (by omega)
  exact ⟨b, off, e, fun i hi => hc i (by omega)⟩

theorem joined_list {wx wr : World} {v : Value} {n : Nat} {J : Nat → Nat} {S L : Nat → ByteArray} (hn : 0 < n) (h : Joined wx wr v n J) (hb : ∀ i, i < n → wx.heap[J i]? = some (.cells (elemCells (S i) (L i)) 42)) :
    ∃ g cap, v = .slice (some ⟨g, 0, none⟩) n cap ∧ IsList wr (some ⟨g, 0, none⟩) n J S L := by
  obtain ⟨hr, hbel⟩ := h
  rcases hr.2 with ⟨_, h0⟩ | ⟨g, cap, cur, hv, hg, hh, hnc, hcm, hcs, htk⟩
  · omega
  refine ⟨g, cap, hv, fun _ => ⟨g, 0, rfl, fun i hi => ⟨?_, ?_⟩⟩⟩
  · have hc := hr.cells (g := g) (by rw [hv]; rfl) i (.pointer (some ⟨J i, 0, none⟩)) (by simp [ptrs, hi])
    rw [Go.WideShapes.add_plain] at hc
    exact hc
  · have hJ : J i < wx.heap.size := (Array.getElem?_eq_some_iff.1 (hb i hi)).1
    exact (hbel.block _ hJ).trans (hb i hi)

theorem jn_blocks {wx : World} {E : Nat → Nat} {x k len : Nat} {S L : Nat → ByteArray} {s l : ByteArray} (hk : k ≤ len) (hE : ∀ i, i < len → wx.heap[E i]? = some (.cells (elemCells (S i) (L i)) 42)) (hx : wx.heap[x]? = some (.cells (elemCells s l) 42)) :
    ∀ i, i < len + 1 → wx.heap[jn E k x i]? = some (.cells (elemCells (jnS S k s i) (jnS L k l i)) 42) := by
  intro i hi
  unfold jn jnS
  by_cases h1 : i < k
  · simp only [if_pos h1]; exact hE i (by omega)
  · by_cases h2 : i = k
    · simp only [if_neg h1, if_pos h2]; exact hx
    · simp only [if_neg h1, if_neg h2]; exact hE _ (by omega)

theorem jn_same {S L : Nat → ByteArray} {k : Nat} {s l : ByteArray} {j : Nat} (hj : j < k) : Same (jnS S k s) (jnS L k l) s l j ↔ Same S L s l j := by
  unfold Same jnS
  simp [hj]

theorem jn_same_at {S L : Nat → ByteArray} {k : Nat} {s l : ByteArray} : Same (jnS S k s) (jnS L k l) s l k := by
  unfold Same jnS
  simp

set_option maxHeartbeats 1000000 in
theorem inserted_walk (ao : Option Addr) (len cap : Nat) (kk : Int) (s l : ByteArray) (hs : s.size ≤ maxLen) (hl : l.size ≤ maxLen) (Sp Lo : Nat → ByteArray) (w : World) (hN : IsNames w ao len Sp Lo) :
    Calls Try.prog 3 #[.slice ao len cap, .int .i64 kk, .string s, .string l] w fun e w' => e = .returned (.bool true) ∧ Below w.heap.size w w' := by
  have hlM : len ≤ 9223372036854775807 := by have := hN.1; unfold maxLen at this; omega
  have hs' := hs
  have hl' := hl
  unfold maxLen at hs' hl'
  go_enter Try.func3, Try.ntmps3
  go_wp2_with fail
  refine (zi_any ao len cap kk s l hs hl Sp Lo w hN).mono ?_
  rintro e w ⟨⟨r, rfl, hr⟩, rfl⟩
  cases r
  · go_wp2_with fail
    go_ret
    exact ⟨rfl, Below.refl _ _⟩
  have hlen := hr rfl
  clear hr
  by_cases hbig : 1048576 < (s.size : Int) ∨ 1048576 < (l.size : Int) ∨ 1048576 < (s.size : Int) + (l.size : Int)
  · by_cases b1 : 1048576 < (s.size : Int)
    · go_wp2_with fail
      go_ret
      exact ⟨rfl, Below.refl _ _⟩
    · by_cases b2 : 1048576 < (l.size : Int)
      · go_wp2_with fail
        go_ret
        exact ⟨rfl, Below.refl _ _⟩
      · have b3 : 1048576 < (s.size : Int) + (l.size : Int) := by omega
        clear hbig
        go_wp2_with fail
        go_ret
        exact ⟨rfl, Below.refl _ _⟩
  have b1 : (s.size : Int) ≤ 1048576 := by omega
  have b2 : (l.size : Int) ≤ 1048576 := by omega
  have b3 : (s.size : Int) + (l.size : Int) ≤ 1048576 := by omega
  clear hbig
  go_wp2_with fail
  refine (ok_any ao len cap Sp Lo _ (by omega) (by omega) _ hN).mono ?_
  rintro e w ⟨⟨r, rfl, -⟩, rfl⟩
  cases r
  · go_wp2_with fail
    go_ret
    exact ⟨rfl, Below.refl _ _⟩
  by_cases hk0 : kk < 0
  · go_wp2_with fail
    go_ret
    exact ⟨rfl, Below.refl _ _⟩
  by_cases hk1 : (len : Int) < kk
  · go_wp2_with fail
    go_ret
    exact ⟨rfl, Below.refl _ _⟩
  obtain ⟨k, rfl⟩ : ∃ k : Nat, kk = k := ⟨kk.toNat, by omega⟩
  have hkl : k ≤ len := by omega
  go_wp2_with fail
  refine (build_any ao len cap Sp Lo _ hlen hN).mono ?_
  rintro e w1 ⟨rfl, hB⟩
  have HB : Hid (Built w w1 len len Sp Lo) := hB
  clear hB hN
  go_wp2_with fail
  refine (new_any s l w1).mono ?_
  rintro e w2 ⟨rfl, hw2⟩
  have HW2 : Hid (w2 = w1.alloc (.cells (elemCells s l) 42)) := hw2
  clear hw2
  have hmk : ∀ w, (Instr.makeSlice 25 (.int .i64 0) (.int .i64 ((len : Int) + 1))).run Try.prog w = .ok (.slice (some ⟨w.heap.size, 0, none⟩) 0 (len + 1)) (w.alloc (.cells (madeCells #[.pointer none] (len + 1)) 27)) := by
    intro w
    obtain ⟨i0, hi, hz0, hz1, hz2⟩ := info_parts Try.info27
    have h := run_make (P := Try.prog) w 25 27 i0 (.pointer none) Try.underlying25 hi hz0 .i64 .i64 0 ((len : Int) + 1) (by omega) (by omega) (by rw [hz2]; omega) (by omega)
    rw [hz1] at h
    have e1 : ((len : Int) + 1).toNat = len + 1 := by omega
    rw [e1] at h
    simpa [Value.cells] using h
  go_wp2_with fail
  -- what the loops lean on: the blocks of the extensions and of the new element, below the joined row
  have hw2z : w2.heap.size = w1.heap.size + 1 := by rw [HW2.out]; simp
  have hw1z : w1.heap.size = w.heap.size + 1 + len := HB.out.2.1
  have hb2 : Below w.heap.size w w2 := by rw [HW2.out]; exact HB.out.2.2.2.alloc (by omega) _
  have hcell : ∀ i, i < len → w2.cell? ⟨w.heap.size, i, none⟩ = some (.pointer (some ⟨w.heap.size + 1 + i, 0, none⟩)) := by
    intro i hi
    rw [HW2.out]
    have c := (HB.out.1.alloc (.cells (elemCells s l) 42)).cell hi
    rwa [if_pos hi] at c
  have hblk : ∀ i, i < len → w2.heap[w.heap.size + 1 + i]? = some (.cells (elemCells (Sp i) (Lo i)) 42) := by
    intro i hi
    rw [HW2.out]
    exact (Below.heap_alloc _ _ _ (by omega)).trans (HB.out.2.2.1 i hi)
  have hblx : w2.heap[w1.heap.size]? = some (.cells (elemCells s l) 42) := by rw [HW2.out]; exact blk_alloc_new _ _
  clear HB HW2
  have Hcell : Hid (∀ i, i < len → w2.cell? ⟨w.heap.size, i, none⟩ = some (.pointer (some ⟨w.heap.size + 1 + i, 0, none⟩))) := hcell
  have Hblk : Hid (∀ i, i < len → w2.heap[w.heap.size + 1 + i]? = some (.cells (elemCells (Sp i) (Lo i)) 42)) := hblk
  have Hblx : Hid (w2.heap[w1.heap.size]? = some (.cells (elemCells s l) 42)) := hblx
  have Hz : Hid (w2.heap.size = w1.heap.size + 1 ∧ w1.heap.size = w.heap.size + 1 + len) := ⟨hw2z, hw1z⟩
  have Hb2 : Hid (Below w.heap.size w w2) := hb2
  clear hcell hblk hblx hw2z hw1z hb2
  obtain ⟨i0, hi, hz0, hz1, hz2⟩ := info_parts Try.info27
  have HI0 : Hid (Try.prog.info? 27 = some i0 ∧ i0.zero = some (.pointer none) ∧ i0.size = 1 ∧ i0.bytes = 8) := ⟨hi, hz0, hz1, hz2⟩
  clear hi hz0 hz1 hz2
  go_loopw [11, 12] (fun v i wr => ∃ m : Nat, m ≤ k ∧ i = .int .i64 m ∧ Joined w2 wr v m (jn (fun i => w.heap.size + 1 + i) k w1.heap.size)) (fun _ i _ => k - (intOf i).toNat)
  case atStart => exact ⟨0, Nat.zero_le _, rfl, joined_start w2 (len + 1) (by omega) _⟩
  case round =>
    obtain ⟨m, hm, rfl, hJ⟩ := hrel
    by_cases hlt : m < k
    · have hc : wr.cell? ⟨w.heap.size, m, none⟩ = some (.pointer (some ⟨w.heap.size + 1 + m, 0, none⟩)) :=
        (hJ.bel.cell (p := ⟨w.heap.size, m, none⟩) (by have := Hz.out; simp; omega)).trans (Hcell.out m (by omega))
      have hml : m < len := by omega
      have HJ : Hid (Joined w2 wr _ m (jn (fun i => w.heap.size + 1 + i) k w1.heap.size)) := hJ
      have hzr : Hid (w2.heap.size ≤ wr.heap.size) := hJ.bel.size
      clear hJ
      go_wp2_with (at_builtin; refine wpList_append_own _ rfl _ _ 25 rfl w2.heap.size 27 i0 (.pointer none) 1 8 Try.underlying25 HI0.out.1 HI0.out.2.1 HI0.out.2.2.1 HI0.out.2.2.2 rfl (by decide) _ _ _ rfl (HJ.out.row.alloc _) ⟨wr.heap.size, 0, none⟩ 1 1 [.pointer (some ⟨w.heap.size + 1 + m, 0, none⟩)] rfl rfl ?c1 ?c2 ?c3 ?c4 ?c5 ?_)
      case c1 => exact cell_one_new _ _ _
      case c2 => intro u hu; simp at hu; subst hu; rfl
      case c3 => unfold maxLen; omega
      case c4 => omega
      case c5 => have := hzr.out; simp; omega
      intro v' w3 hown hgrow _
      have hJ3 : Joined w2 w3 v' (m + 1) (jn (fun i => w.heap.size + 1 + i) k w1.heap.size) := joined_step HJ.out (by simpa [jn, hlt] using hown) hgrow
      have HJ3 : Hid (Joined w2 w3 v' (m + 1) (jn (fun i => w.heap.size + 1 + i) k w1.heap.size)) := hJ3
      clear hown hgrow hJ3 HJ
      go_wp2_with fail
      go_roundw
      case rel => exact ⟨m + 1, by omega, by go_num, HJ3.out⟩
      case measure => simp [intOf]; omega
    · obtain rfl : m = k := by omega
      have HJ : Hid (Joined w2 wr _ m (jn (fun i => w.heap.size + 1 + i) m w1.heap.size)) := hJ
      have hzr : Hid (w2.heap.size ≤ wr.heap.size) := hJ.bel.size
      clear hJ
      go_wp2_with (at_builtin; refine wpList_append_own _ rfl _ _ 25 rfl w2.heap.size 27 i0 (.pointer none) 1 8 Try.underlying25 HI0.out.1 HI0.out.2.1 HI0.out.2.2.1 HI0.out.2.2.2 rfl (by decide) _ _ _ rfl (HJ.out.row.alloc _) ⟨wr.heap.size, 0, none⟩ 1 1 [.pointer (some ⟨w1.heap.size, 0, none⟩)] rfl rfl ?c1 ?c2 ?c3 ?c4 ?c5 ?_)
      case c1 => exact cell_one_new _ _ _
      case c2 => intro u hu; simp at hu; subst hu; rfl
      case c3 => unfold maxLen; omega
      case c4 => omega
      case c5 => have := hzr.out; simp; omega
      intro v' w3 hown hgrow _
      have hJ3 : Joined w2 w3 v' (m + 1) (jn (fun i => w.heap.size + 1 + i) m w1.heap.size) := joined_step HJ.out (by simpa [jn] using hown) hgrow
      have HJ3 : Hid (Joined w2 w3 v' (m + 1) (jn (fun i => w.heap.size + 1 + i) m w1.heap.size)) := hJ3
      clear hown hgrow hJ3 HJ
      go_wp2_with fail
      go_loopw [11, 13] (fun v i wr => ∃ j : Nat, m ≤ j ∧ j ≤ len ∧ i = .int .i64 j ∧ Joined w2 wr v (j + 1) (jn (fun i => w.heap.size + 1 + i) m w1.heap.size)) (fun _ i _ => len - (intOf i).toNat)
      case atStart => exact ⟨m, Nat.le_refl _, hkl, rfl, HJ3.out⟩
      case round =>
        clear HJ3
        obtain ⟨j, hmj, hjl, rfl, hJ⟩ := hrel
        by_cases hlt2 : j < len
        · have hc : wr.cell? ⟨w.heap.size, j, none⟩ = some (.pointer (some ⟨w.heap.size + 1 + j, 0, none⟩)) :=
            (hJ.bel.cell (p := ⟨w.heap.size, j, none⟩) (by have := Hz.out; simp; omega)).trans (Hcell.out j (by omega))
          have HJ : Hid (Joined w2 wr _ (j + 1) (jn (fun i => w.heap.size + 1 + i) m w1.heap.size)) := hJ
          have hzr : Hid (w2.heap.size ≤ wr.heap.size) := hJ.bel.size
          clear hJ
          go_wp2_with (at_builtin; refine wpList_append_own _ rfl _ _ 25 rfl w2.heap.size 27 i0 (.pointer none) 1 8 Try.underlying25 HI0.out.1 HI0.out.2.1 HI0.out.2.2.1 HI0.out.2.2.2 rfl (by decide) _ _ _ rfl (HJ.out.row.alloc _) ⟨wr.heap.size, 0, none⟩ 1 1 [.pointer (some ⟨w.heap.size + 1 + j, 0, none⟩)] rfl rfl ?c1 ?c2 ?c3 ?c4 ?c5 ?_)
          case c1 => exact cell_one_new _ _ _
          case c2 => intro u hu; simp at hu; subst hu; rfl
          case c3 => unfold maxLen; omega
          case c4 => omega
          case c5 => have := hzr.out; simp; omega
          intro v' w3 hown hgrow _
          have e1 : ¬ j + 1 < m := by omega
          have e2 : ¬ j + 1 = m := by omega
          have hJ3 : Joined w2 w3 v' (j + 1 + 1) (jn (fun i => w.heap.size + 1 + i) m w1.heap.size) := joined_step HJ.out (by simpa [jn, e1, e2] using hown) hgrow
          have HJ3 : Hid (Joined w2 w3 v' (j + 1 + 1) (jn (fun i => w.heap.size + 1 + i) m w1.heap.size)) := hJ3
          clear hown hgrow hJ3 HJ e1 e2
          go_wp2_with fail
          go_roundw
          case rel => exact ⟨j + 1, by omega, by omega, by go_num, HJ3.out⟩
          case measure => simp [intOf]; omega
        · obtain rfl : j = len := by omega
          obtain ⟨g, gcap, hv, hLJ⟩ := joined_list (S := jnS Sp m s) (L := jnS Lo m l) (by omega) hJ (jn_blocks hmj Hblk.out Hblx.out)
          have hLE : IsList w2 (some ⟨w.heap.size, 0, none⟩) j (fun i => w.heap.size + 1 + i) Sp Lo := fun _ => ⟨_, 0, rfl, fun i hi => ⟨by simpa using Hcell.out i hi, Hblk.out i hi⟩⟩
          have hLE2 := isList_bel (Nat.le_refl _) hLE hJ.bel
          have hbw : Below w.heap.size w wr := Hb2.out.trans (hJ.bel.mono (by have := Hz.out; omega))
          clear hJ hLE Hcell Hblk Hblx
          subst hv
          -- the two commands' worlds
          have hz4 : Hid (w1.heap.size < w2.heap.size) := by have := Hz.out; unfold Hid; omega
          by_cases hex : ∃ p, p < m ∧ Same Sp Lo s l p
          · -- one of that name stands before the place
            obtain ⟨p0, hp0, hs0⟩ := hex
            obtain ⟨p, hpp, hsp, hno⟩ := least (p := Same Sp Lo s l) p0 hs0
            have hpm : p < m := by omega
            have C1 := ext_hit wr.heap.size _ m j _ Sp Lo s l (cmdW wr (.slice (some ⟨w.heap.size, 0, none⟩) m j)) (by omega) (cmdW_cell wr _) (isList_cmdW (isList_less hLE2 hmj) _) p hpm hsp hno
            have hbw4 : Below w.heap.size w (cmdW wr (.slice (some ⟨w.heap.size, 0, none⟩) m j)) := hbw.alloc hbw.size _
            have S4 : Hid (IsList (cmdW wr (.slice (some ⟨w.heap.size, 0, none⟩) m j)) (some ⟨w.heap.size, 0, none⟩) j (fun i => w.heap.size + 1 + i) Sp Lo ∧ IsList (cmdW wr (.slice (some ⟨w.heap.size, 0, none⟩) m j)) (some ⟨g, 0, none⟩) (j + 1) (jn (fun i => w.heap.size + 1 + i) m w1.heap.size) (jnS Sp m s) (jnS Lo m l) ∧ Below w.heap.size w (cmdW wr (.slice (some ⟨w.heap.size, 0, none⟩) m j))) := ⟨isList_cmdW hLE2 _, isList_cmdW hLJ _, hbw4⟩
            have H1 := hid C1
            have HF : Hid (Same Sp Lo s l p ∧ ∀ j, j < p → ¬ Same Sp Lo s l j) := ⟨hsp, hno⟩
            clear C1 hbw4 hLE2 hLJ hbw hs0 hsp hno
            go_wp2_with fail
            refine H1.out.mono ?_
            clear H1
            rintro e w4 ⟨rfl, hw4⟩
            rw [← hw4] at S4
            clear hw4
            have hpJ : jn (fun i => w.heap.size + 1 + i) m w1.heap.size p = w.heap.size + 1 + p := by simp [jn, hpm]
            have C2 := ext_hit w4.heap.size _ (j + 1) gcap _ _ _ s l (cmdW w4 (.slice (some ⟨g, 0, none⟩) (j + 1) gcap)) (by omega) (cmdW_cell w4 _) (isList_cmdW S4.out.2.1 _) p (by omega) ((jn_same hpm).2 HF.out.1) (fun q hq h => HF.out.2 q hq ((jn_same (by omega)).1 h))
            rw [hpJ] at C2
            have H2 := hid C2
            have S5 : Hid (IsList (cmdW w4 (.slice (some ⟨g, 0, none⟩) (j + 1) gcap)) (some ⟨w.heap.size, 0, none⟩) j (fun i => w.heap.size + 1 + i) Sp Lo ∧ Below w.heap.size w (cmdW w4 (.slice (some ⟨g, 0, none⟩) (j + 1) gcap))) := ⟨isList_cmdW S4.out.1 _, S4.out.2.2.alloc S4.out.2.2.size _⟩
            clear C2 S4 hpJ
            go_wp2_with fail
            refine H2.out.mono ?_
            clear H2
            rintro e w5 ⟨rfl, hw5⟩
            rw [← hw5] at S5
            clear hw5
            have C3 := idx_any w.heap.size 0 m j (fun i => w.heap.size + 1 + i) Sp Lo w5 (by omega) (isList_less S5.out.1 hmj) p hpm (fun i hi => by simp; omega)
            have H3 := hid C3
            clear C3
            go_wp2_with fail
            refine H3.out.mono ?_
            clear H3
            rintro e w6 ⟨rfl, rfl⟩
            obtain ⟨ce0, ce1⟩ : w6.cell? ⟨w.heap.size + 1 + p, 0, none⟩ = some (.string (Sp p)) ∧ w6.cell? ⟨w.heap.size + 1 + p, 1, none⟩ = some (.string (Lo p)) := by
              obtain ⟨_, _, _, h⟩ := S5.out.1 (by omega)
              exact elem_cells (h p (by omega)).2
            have e1 : ((Sp p).toList == s.toList) = true := by simpa using HF.out.1.1
            have e2 : ((Lo p).toList == l.toList) = true := by simpa using HF.out.1.2
            have hpt := ptr_same w6 ⟨w.heap.size + 1 + p, 0, none⟩
            go_wp2_with fail
            go_ret
            exact ⟨rfl, S5.out.2⟩
          · -- none before the place: the new one is found
            have hno : ∀ q, q < m → ¬ Same Sp Lo s l q := fun q hq h => hex ⟨q, hq, h⟩
            clear hex
            have C1 := ext_miss wr.heap.size _ m j _ Sp Lo s l (cmdW wr (.slice (some ⟨w.heap.size, 0, none⟩) m j)) (by omega) (cmdW_cell wr _) (isList_cmdW (isList_less hLE2 hmj) _) hno
            have hbw4 : Below w.heap.size w (cmdW wr (.slice (some ⟨w.heap.size, 0, none⟩) m j)) := hbw.alloc hbw.size _
            have S4 : Hid (IsList (cmdW wr (.slice (some ⟨w.heap.size, 0, none⟩) m j)) (some ⟨g, 0, none⟩) (j + 1) (jn (fun i => w.heap.size + 1 + i) m w1.heap.size) (jnS Sp m s) (jnS Lo m l) ∧ Below w.heap.size w (cmdW wr (.slice (some ⟨w.heap.size, 0, none⟩) m j))) := ⟨isList_cmdW hLJ _, hbw4⟩
            have H1 := hid C1
            have HF : Hid (∀ j, j < m → ¬ Same Sp Lo s l j) := hno
            clear C1 hbw4 hLE2 hLJ hbw hno
            go_wp2_with fail
            refine H1.out.mono ?_
            clear H1
            rintro e w4 ⟨rfl, hw4⟩
            rw [← hw4] at S4
            clear hw4
            have hpJ : jn (fun i => w.heap.size + 1 + i) m w1.heap.size m = w1.heap.size := by simp [jn]
            have C2 := ext_hit w4.heap.size _ (j + 1) gcap _ _ _ s l (cmdW w4 (.slice (some ⟨g, 0, none⟩) (j + 1) gcap)) (by omega) (cmdW_cell w4 _) (isList_cmdW S4.out.1 _) m (by omega) jn_same_at (fun q hq h => HF.out q hq ((jn_same (by omega)).1 h))
            rw [hpJ] at C2
            have H2 := hid C2
            have S5 : Hid (Below w.heap.size w (cmdW w4 (.slice (some ⟨g, 0, none⟩) (j + 1) gcap))) := S4.out.2.alloc S4.out.2.size _
            clear C2 S4 hpJ
            go_wp2_with fail
            refine H2.out.mono ?_
            clear H2
            rintro e w5 ⟨rfl, hw5⟩
            rw [← hw5] at S5
            clear hw5
            have hpt := ptr_same w5 ⟨w1.heap.size, 0, none⟩
            go_wp2_with fail
            go_ret
            exact ⟨rfl, S5.out⟩

end Go.Proofs.Qxb6628155a
