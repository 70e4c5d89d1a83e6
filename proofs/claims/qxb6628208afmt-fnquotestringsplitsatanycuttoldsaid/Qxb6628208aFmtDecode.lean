import Derived.Test.Qxb6628208aFmtQuote
import Derived.Laws.IdiomStrings
import Derived.Laws.BytesArg
import Derived.Maps.AppendAt
import Derived.Outline
namespace Go.Proofs.Qxb6628208aFmt
open Go.RowKit

/-! ### zzAllPrintable -/
def allP (l : List UInt8) : Bool := l.all pr
theorem allP_iff (l : List UInt8) : allP l = true ↔ ∀ c ∈ l, pr c = true := by simp [allP]
theorem all_take_succ (s : ByteArray) (k : Nat) (h : k < s.size) : allP (s.data.toList.take (k + 1)) = (allP (s.data.toList.take k) && pr s[k]) := by
  rw [take_snoc s k h]; simp [allP]

theorem all_not (s : ByteArray) (k : Nat) (h : k < s.size) (hp : pr s[k] = false) : allP s.data.toList = false := by
  have h1 := all_take_succ s k h
  rw [hp, Bool.and_false] at h1
  unfold allP at *
  rw [← List.take_append_drop (k + 1) s.data.toList, List.all_append, h1]; rfl

theorem allp_any (s : ByteArray) (hs : s.size ≤ 1048576) (w : World) :
    Calls Tryf.prog 7 #[.string s] w fun e w' => e = .returned (.bool (allP s.data.toList)) ∧ w' = w := by
  go_enter Tryf.func7, Tryf.ntmps7
  go_wp2
  go_loop [3] (fun i => ∃ k : Nat, k ≤ s.size ∧ i = .int .i64 k ∧ allP (s.data.toList.take k) = true) (fun i => s.size - (intOf i).toNat)
  case atStart => exact ⟨0, Nat.zero_le _, rfl, rfl⟩
  case round =>
    obtain ⟨k, hk, rfl, hg⟩ := hrel
    have HG : Hid (allP (s.data.toList.take k) = true) := hg
    clear hg
    by_cases hlt : k < s.size
    · by_cases c1 : (s[k].toNat : Int) < 32
      · have HN : Hid (allP s.data.toList = false) := all_not s k hlt (by unfold pr; simp; omega)
        go_wp2
        go_ret
        rw [HN.out]
        exact ⟨rfl, rfl⟩
      · by_cases c2 : 126 < (s[k].toNat : Int)
        · have HN : Hid (allP s.data.toList = false) := all_not s k hlt (by unfold pr; simp; omega)
          go_wp2
          go_ret
          rw [HN.out]
          exact ⟨rfl, rfl⟩
        · have HN : Hid (allP (s.data.toList.take (k + 1)) = true) := by
            show _ = _
            rw [all_take_succ s k hlt, HG.out]; unfold pr; simp; omega
          go_wp2
          go_round
          case rel => exact ⟨k + 1, by omega, by go_num, HN.out⟩
          case measure => simp [intOf]; omega
    · have HN : Hid (allP s.data.toList = true) := by
        show _ = _
        have h1 := HG.out
        rwa [List.take_of_length_le (by rw [Array.length_toList]; exact Nat.le_of_not_lt hlt)] at h1
      go_wp2
      go_ret
      rw [HN.out]
      exact ⟨rfl, rfl⟩

/-! ### zzDecodeSFString at what QuoteString wrote -/
theorem Tryf.info5 : (Tryf.prog.info? 5).map (fun i => (i.zero, i.size, i.bytes)) = some (some (.int .u8 0), 1, 1) := by kernel_rfl

theorem conv_owned {w : World} {base : Nat} {v : Value} {l : List UInt8} (h : w.ownsRow base 5 1 v l.length (Lib.byteCells l)) : (convert 32 9 v).run Tryf.prog w = .ok (.string ⟨l.toArray⟩) w := by
  rcases h.2 with ⟨rfl, h0⟩ | ⟨g, cap, cur, rfl, hg, hh, hnc, hcm, hcs, htk⟩
  · have : l = [] := List.eq_nil_of_length_eq_zero h0
    subst this
    exact run_convert_bytes_nil w 32 5 Tryf.underlying32 Tryf.underlying5 0 0 9 Tryf.underlying9
  · refine run_convert_bytes_back w 32 9 5 ⟨g, 0, none⟩ cap l Tryf.underlying32 Tryf.underlying5 Tryf.underlying9 (fun j hj => ?_)
    refine h.cells (g := g) rfl j _ ?_
    simp [Lib.byteCells, hj]

theorem quoted_at (l : List UInt8) (k : Nat) (hk : k < l.length) : quoted l = (34 :: esc (l.take k)) ++ (esc1 l[k] ++ (esc (l.drop (k + 1)) ++ [34])) := by
  have h : l = l.take k ++ (l[k] :: l.drop (k + 1)) := by rw [← List.drop_eq_getElem_cons hk, List.take_append_drop]
  unfold quoted
  conv => lhs; rw [h]
  rw [esc_append, esc_cons]
  simp

structure Dk (w wr : World) (v : Value) (l : List UInt8) (k : Nat) : Prop where
  row : wr.ownsRow w.heap.size 5 1 v k (Lib.byteCells (l.take k))
  bel : Below w.heap.size w wr

theorem Dk.step {w wr w' : World} {v v' : Value} {l : List UInt8} {k : Nat} {o : Obj} (h : Dk w wr v l k) (hk : k < l.length)
    (hown : w'.ownsRow w.heap.size 5 1 v' (k + 1) (Lib.byteCells (l.take k) ++ [.int .u8 l[k].toNat])) (hg : (wr.alloc o).grownBy w' v.ownBlock) : Dk w w' v' l (k + 1) := by
  have hz := h.bel.size
  refine ⟨?_, (h.bel.alloc hz o).grown hg (by simp; omega) (fun k hk => (h.row.lt k hk).1)⟩
  rw [List.take_succ_eq_append_getElem hk, Lib.byteCells_append]
  exact hown

/-- a byte of q, where q's bytes are known as a list -/
theorem byte_at {q : ByteArray} {pre post : List UInt8} {c : UInt8} (h : q.data.toList = pre ++ c :: post) (hlt : pre.length < q.size) : q[pre.length]'hlt = c := by
  have e : q[pre.length]'hlt = q.data.toList[pre.length]'(by rw [Array.length_toList]; exact hlt) := rfl
  rw [e]
  simp [h]

theorem step_sp {q : ByteArray} {l : List UInt8} {k p : Nat} (hq : q.data.toList = quoted l) (hk : k < l.length) (hp : p = 1 + (esc (l.take k)).length) (hsp : sp l[k] = true) :
    p + 1 < q.size - 1 ∧ (∀ h0 : p < q.size, q[p] = 92) ∧ (∀ h1 : p + 1 < q.size, q[p + 1] = l[k]) ∧ p + 2 = 1 + (esc (l.take (k + 1))).length := by
  have hqa := hq.trans (quoted_at l k hk)
  have e1 : esc1 l[k] = [92, l[k]] := by unfold esc1; rw [if_pos hsp]
  rw [e1] at hqa
  have hlen := congrArg List.length hqa
  rw [Array.length_toList] at hlen
  have hqs : q.data.size = q.size := rfl
  simp only [List.length_append, List.length_cons, List.length_nil] at hlen
  have hpre : (34 :: esc (l.take k)).length = p := by simp; omega
  have hpre1 : ((34 :: esc (l.take k)) ++ [92]).length = p + 1 := by rw [List.length_append, hpre]; rfl
  refine ⟨by omega, fun h0 => ?_, fun h1 => ?_, ?_⟩
  · have := byte_at (q := q) (pre := 34 :: esc (l.take k)) (c := 92) (post := l[k] :: (esc (l.drop (k + 1)) ++ [34])) (by rw [hqa]; simp) (by rw [hpre]; omega)
    simpa only [hpre] using this
  · have := byte_at (q := q) (pre := (34 :: esc (l.take k)) ++ [92]) (c := l[k]) (post := esc (l.drop (k + 1)) ++ [34]) (by rw [hqa]; simp) (by rw [hpre1]; omega)
    simpa only [hpre1] using this
  · rw [List.take_succ_eq_append_getElem hk, esc_snoc, List.length_append, e1]
    simp; omega

theorem step_no {q : ByteArray} {l : List UInt8} {k p : Nat} (hq : q.data.toList = quoted l) (hk : k < l.length) (hp : p = 1 + (esc (l.take k)).length) (hsp : ¬ sp l[k] = true) :
    p < q.size - 1 ∧ (∀ h0 : p < q.size, q[p] = l[k]) ∧ p + 1 = 1 + (esc (l.take (k + 1))).length := by
  have hqa := hq.trans (quoted_at l k hk)
  have e1 : esc1 l[k] = [l[k]] := by unfold esc1; rw [if_neg hsp]
  rw [e1] at hqa
  have hlen := congrArg List.length hqa
  rw [Array.length_toList] at hlen
  have hqs : q.data.size = q.size := rfl
  simp only [List.length_append, List.length_cons, List.length_nil] at hlen
  have hpre : (34 :: esc (l.take k)).length = p := by simp; omega
  refine ⟨by omega, fun h0 => ?_, ?_⟩
  · have := byte_at (q := q) (pre := 34 :: esc (l.take k)) (c := l[k]) (post := esc (l.drop (k + 1)) ++ [34]) (by rw [hqa]; simp) (by rw [hpre]; omega)
    simpa only [hpre] using this
  · rw [List.take_succ_eq_append_getElem hk, esc_snoc, List.length_append, e1]
    simp; omega

set_option maxHeartbeats 400000 in
theorem decode_any (q : ByteArray) (l : List UInt8) (hq : q.data.toList = quoted l) (hl : l.length ≤ 1048576) (hp : ∀ c ∈ l, pr c = true) (w : World) :
    Calls Tryf.prog 8 #[.string q] w fun e w' => e = .returned (.tuple #[.string ⟨l.toArray⟩, .bool true]) ∧ Below w.heap.size w w' := by
  have hsz : q.size = 2 + (esc l).length := by
    have : q.data.toList.length = q.size := by rw [Array.length_toList]; rfl
    rw [← this, hq]; simp [quoted]; omega
  have hel := esc_length l
  have hsl := specials_le l
  have hq2N : 2 ≤ q.size := by omega
  have h0 : q[0]'(by clear hsz hel hsl; omega) = 34 := byte_at (pre := []) (post := esc l ++ [34]) (by rw [hq]; rfl) (by simp; omega)
  have h1 : q[q.size - 1]'(by clear hsz hel hsl h0; omega) = 34 := by
    have hlen : (34 :: esc l).length = q.size - 1 := by simp; omega
    have := byte_at (q := q) (pre := 34 :: esc l) (post := []) (c := 34) (by rw [hq]; rfl) (by rw [hlen]; omega)
    simpa only [hlen] using this
  have hn1 : ((q.size : Int) - 1) = ((q.size - 1 : Nat) : Int) := by omega
  have hq2 : (2 : Int) ≤ (q.size : Int) := by omega
  have hqM : (q.size : Int) ≤ 3145728 := by omega
  have HE : Hid (q.size = 2 + (esc l).length ∧ (esc l).length = l.length + specials l ∧ specials l ≤ l.length) := ⟨hsz, hel, hsl⟩
  clear hsz hel hsl
  have hmk : ∀ w, (Instr.makeSlice 32 (.int .i64 0) (.int .i64 (q.size : Int))).run Tryf.prog w = .ok (.slice (some ⟨w.heap.size, 0, none⟩) 0 q.size) (w.alloc (.cells (madeCells #[.int .u8 0] q.size) 5)) := by
    intro w
    obtain ⟨i0, hi, hz0, hz1, hz2⟩ := info_parts Tryf.info5
    have h := run_make (P := Tryf.prog) w 32 5 i0 (.int .u8 0) Tryf.underlying32 hi hz0 .i64 .i64 0 (q.size : Int) (by omega) (by omega) (by rw [hz2]; omega) (by omega)
    rw [hz1] at h
    simpa [Value.cells] using h
  go_enter Tryf.func8, Tryf.ntmps8
  go_wp2_with fail
  clear h0 h1
  obtain ⟨i0, hi, hz0, hz1, hz2⟩ := info_parts Tryf.info5
  have HI0 : Hid (Tryf.prog.info? 5 = some i0 ∧ i0.zero = some (.int .u8 0) ∧ i0.size = 1 ∧ i0.bytes = 1) := ⟨hi, hz0, hz1, hz2⟩
  clear hi hz0 hz1 hz2 hmk
  have HQ : Hid (q.data.toList = quoted l ∧ ∀ c ∈ l, pr c = true) := ⟨hq, hp⟩
  clear hq hp
  go_loopw [5, 6] (fun v i wr => ∃ k p : Nat, k ≤ l.length ∧ p = 1 + (esc (l.take k)).length ∧ i = .int .i64 p ∧ Dk w wr v l k) (fun _ i _ => q.size - (intOf i).toNat)
  case atStart => exact ⟨0, 1, Nat.zero_le _, rfl, rfl, World.ownsRow_made w _ q.size (Nat.le_refl _) (by unfold maxLen; omega) (by simp [size_madeCells]), (Below.refl _ _).alloc (Nat.le_refl _) _⟩
  case round =>
    obtain ⟨k, p, hk, hpk, rfl, hD⟩ := hrel
    have HP : Hid (p = 1 + (esc (l.take k)).length) := hpk
    have HD : Hid (Dk w wr _ l k) := hD
    have hzr : Hid (w.heap.size ≤ wr.heap.size) := hD.bel.size
    clear hpk hD
    by_cases hlt : k < l.length
    · have hprc := HQ.out.2 l[k] (List.getElem_mem _)
      by_cases hsp : sp l[k] = true
      · -- an escaped byte
        obtain ⟨hp1, b0, b1, hN⟩ := step_sp HQ.out.1 hlt HP.out hsp
        have HN : Hid (p + 2 = 1 + (esc (l.take (k + 1))).length) := hN
        obtain ⟨c, hc⟩ : ∃ c, c = l[k] := ⟨_, rfl⟩
        rw [← hc] at b1 hsp
        have HC : Hid (c = l[k]) := hc
        have hp2 : (p : Int) + 1 < (q.size : Int) - 1 := by omega
        have hp3 : p < q.size := by omega
        have hp4 : p + 1 < q.size := by omega
        have c0 := b0 hp3
        have c1 := b1 hp4
        clear hprc hN hc b0 b1
        have hcc : c = 34 ∨ c = 92 := by
          unfold sp at hsp
          simp only [Bool.or_eq_true, decide_eq_true_eq] at hsp
          rcases hsp with h | h
          · left; exact UInt8.toNat_inj.1 h
          · right; exact UInt8.toNat_inj.1 h
        clear hsp
        rcases hcc with rfl | rfl
        · go_wp2_with (at_builtin; refine wpList_append_own _ rfl _ _ 32 rfl w.heap.size 5 i0 (.int .u8 0) 1 1 Tryf.underlying32 HI0.out.1 HI0.out.2.1 HI0.out.2.2.1 HI0.out.2.2.2 rfl (by decide) _ _ _ rfl (HD.out.row.alloc _) ⟨wr.heap.size, 0, none⟩ 1 1 [.int .u8 34] rfl rfl ?c1 ?c2 ?c3 ?c4 ?c5 ?_)
          case c1 => exact cell_one_new _ _ _
          case c2 => intro u hu; simp at hu; subst hu; rfl
          case c3 => unfold maxLen; omega
          case c4 => omega
          case c5 => have := hzr.out; simp; omega
          intro v' w3 hown hgrow _
          have HD3 : Hid (Dk w w3 v' l (k + 1)) := HD.out.step hlt (by rw [← HC.out]; exact hown) hgrow
          clear hown hgrow
          go_wp2_with fail
          go_roundw
          case rel => exact ⟨k + 1, p + 2, by omega, HN.out, by go_num, HD3.out⟩
          case measure => simp [intOf]; omega
        · go_wp2_with (at_builtin; refine wpList_append_own _ rfl _ _ 32 rfl w.heap.size 5 i0 (.int .u8 0) 1 1 Tryf.underlying32 HI0.out.1 HI0.out.2.1 HI0.out.2.2.1 HI0.out.2.2.2 rfl (by decide) _ _ _ rfl (HD.out.row.alloc _) ⟨wr.heap.size, 0, none⟩ 1 1 [.int .u8 92] rfl rfl ?c1 ?c2 ?c3 ?c4 ?c5 ?_)
          case c1 => exact cell_one_new _ _ _
          case c2 => intro u hu; simp at hu; subst hu; rfl
          case c3 => unfold maxLen; omega
          case c4 => omega
          case c5 => have := hzr.out; simp; omega
          intro v' w3 hown hgrow _
          have HD3 : Hid (Dk w w3 v' l (k + 1)) := HD.out.step hlt (by rw [← HC.out]; exact hown) hgrow
          clear hown hgrow
          go_wp2_with fail
          go_roundw
          case rel => exact ⟨k + 1, p + 2, by omega, HN.out, by go_num, HD3.out⟩
          case measure => simp [intOf]; omega
      · -- a plain byte
        obtain ⟨hp1, b0, hN⟩ := step_no HQ.out.1 hlt HP.out hsp
        have HN : Hid (p + 1 = 1 + (esc (l.take (k + 1))).length) := hN
        obtain ⟨c, hc⟩ : ∃ c, c = l[k] := ⟨_, rfl⟩
        rw [← hc] at b0 hsp hprc
        have HC : Hid (c = l[k]) := hc
        have hp2 : (p : Int) < (q.size : Int) - 1 := by omega
        have hp3 : p < q.size := by omega
        have c0 := b0 hp3
        obtain ⟨n, hn⟩ : ∃ n : Int, n = c.toNat := ⟨_, rfl⟩
        have d1 : (n == 34) = false := by unfold sp at hsp; simp at hsp ⊢; omega
        have d2 : (n == 92) = false := by unfold sp at hsp; simp at hsp ⊢; omega
        have d3 : 32 ≤ n := by unfold pr at hprc; simp at hprc; omega
        have d4 : n ≤ 126 := by unfold pr at hprc; simp at hprc; omega
        rw [hn] at d1 d2 d3 d4
        clear hprc hN hc b0 hsp hn n
        go_wp2_with (at_builtin; refine wpList_append_own _ rfl _ _ 32 rfl w.heap.size 5 i0 (.int .u8 0) 1 1 Tryf.underlying32 HI0.out.1 HI0.out.2.1 HI0.out.2.2.1 HI0.out.2.2.2 rfl (by decide) _ _ _ rfl (HD.out.row.alloc _) ⟨wr.heap.size, 0, none⟩ 1 1 [.int .u8 c.toNat] rfl rfl ?c1 ?c2 ?c3 ?c4 ?c5 ?_)
        case c1 => exact cell_one_new _ _ _
        case c2 => intro u hu; simp at hu; subst hu; rfl
        case c3 => unfold maxLen; omega
        case c4 => omega
        case c5 => have := hzr.out; simp; omega
        intro v' w3 hown hgrow _
        have HD3 : Hid (Dk w w3 v' l (k + 1)) := HD.out.step hlt (by rw [← HC.out]; exact hown) hgrow
        clear hown hgrow
        go_wp2_with fail
        go_roundw
        case rel => exact ⟨k + 1, p + 1, by omega, HN.out, by go_num, HD3.out⟩
        case measure => simp [intOf]; omega
    · obtain rfl : k = l.length := by omega
      have hpe : (p : Int) = (q.size : Int) - 1 := by
        have h1 := HP.out
        have h2 := HE.out.1
        rw [List.take_length] at h1
        omega
      have hge : ¬ (p : Int) < (q.size : Int) - 1 := by omega
      have h := HD.out.row
      rw [List.take_length] at h
      have hcv := conv_owned h
      clear hpe h
      go_wp2_with fail
      go_ret2
      exact ⟨rfl, HD.out.bel⟩

end Go.Proofs.Qxb6628208aFmt
