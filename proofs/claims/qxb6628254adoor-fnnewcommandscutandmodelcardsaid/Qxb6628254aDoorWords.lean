import Derived.Test.Qxb6628254aDoorWidth
import Derived.Maps.AppendAt
import Derived.Lib.Strings
namespace Go.Proofs.Qxb6628254aDoor
open Go.RowKit

theorem Tryd.info9 : (Tryd.prog.info? 9).map (fun i => (i.zero, i.size, i.bytes)) = some (some (.string ByteArray.empty), 1, 16) := by kernel_rfl

/-- a slice of strings that the call has built -/
def Strs (w : World) (base : Nat) (v : Value) (xs : List ByteArray) : Prop := w.ownsRow base 9 1 v xs.length (xs.map Value.string)

theorem Strs.step {wx wr w' : World} {base : Nat} {v v' : Value} {xs : List ByteArray} {x : ByteArray} {o : Obj} (h : Strs wr base v xs) (hb : Below base wx wr) (hz : base ≤ wx.heap.size)
    (hown : w'.ownsRow base 9 1 v' (xs.length + 1) (xs.map Value.string ++ [.string x])) (hg : (wr.alloc o).grownBy w' v.ownBlock) : Strs w' base v' (xs ++ [x]) ∧ Below base wx w' := by
  have h1 := hb.size
  refine ⟨?_, (hb.alloc (by omega) o).grown hg (by simp; omega) (fun k hk => (h.lt k hk).1)⟩
  unfold Strs
  rw [List.length_append, List.map_append]
  exact hown

/-- the piece that is open -/
def curOf (s : ByteArray) (st : Option Nat) (i : Nat) : List UInt8 :=
  match st with
  | none => []
  | some a => (s.data.toList.drop a).take (i - a)

def stV (st : Option Nat) : Value := match st with | none => .int .i64 (-1) | some a => .int .i64 a

structure Wk (s : ByteArray) (w wr : World) (v : Value) (st : Option Nat) (i : Nat) : Prop where
  pos : ∀ a, st = some a → a < i
  run : ∃ gs : List ByteArray, gs.length ≤ i ∧ gs ++ (G (curOf s st i) (s.data.toList.drop i)).map toB = wordsB s ∧ Strs wr w.heap.size v gs
  bel : Below w.heap.size w wr

theorem extract_toB (s : ByteArray) (a b : Nat) : s.extract a b = toB ((s.data.toList.drop a).take (b - a)) := by
  rw [← Lib.extract_data, toB_of]

theorem curOf_ne (s : ByteArray) (a i : Nat) (h : a < i) (hi : i ≤ s.size) : curOf s (some a) i ≠ [] := by
  intro h0
  have h1 := congrArg List.length h0
  have hl : s.data.toList.length = s.size := by rw [Array.length_toList]; rfl
  simp only [curOf, List.length_take, List.length_drop, List.length_nil] at h1
  omega

theorem curOf_grow (s : ByteArray) (a i : Nat) (h : a ≤ i) (hi : i < s.size) : curOf s (some a) i ++ [s.data.toList[i]'(by rw [Array.length_toList]; exact hi)] = curOf s (some a) (i + 1) := by
  have hl : s.data.toList.length = s.size := by rw [Array.length_toList]; rfl
  show (s.data.toList.drop a).take (i - a) ++ [_] = (s.data.toList.drop a).take (i + 1 - a)
  rw [show i + 1 - a = (i - a) + 1 by omega, List.take_succ_eq_append_getElem (by rw [List.length_drop]; omega)]
  congr 2
  rw [List.getElem_drop]
  congr 1
  omega

theorem drop_cons (s : ByteArray) (i : Nat) (hi : i < s.size) : s.data.toList.drop i = s.data.toList[i]'(by rw [Array.length_toList]; exact hi) :: s.data.toList.drop (i + 1) :=
  List.drop_eq_getElem_cons (by rw [Array.length_toList]; exact hi)

/-- a byte that belongs to a word -/
theorem Wk.step {s : ByteArray} {w wr : World} {v : Value} {st : Option Nat} {i : Nat} (h : Wk s w wr v st i) (hi : i < s.size) (h0 : swAt s i = 0) : Wk s w wr v (some (st.getD i)) (i + 1) := by
  obtain ⟨hp, ⟨gs, hg, he, hs⟩, hb⟩ := h
  rw [swAt_eq s i hi, drop_cons s i hi] at h0
  rw [drop_cons s i hi, G_step _ _ _ h0] at he
  refine ⟨fun a ha => ?_, ⟨gs, by omega, ?_, hs⟩, hb⟩
  · cases st with
    | none => simp at ha; omega
    | some b => simp at ha; have := hp b rfl; omega
  · cases st with
    | none =>
      have e : curOf s none i ++ [s.data.toList[i]'(by rw [Array.length_toList]; exact hi)] = curOf s (some i) (i + 1) := by
        rw [← curOf_grow s i i (Nat.le_refl _) hi]
        simp [curOf]
      rw [e] at he
      exact he
    | some a =>
      rw [curOf_grow s a i (Nat.le_of_lt (hp a rfl)) hi] at he
      exact he

/-- white space, no word open -/
theorem Wk.space0 {s : ByteArray} {w wr : World} {v : Value} {i : Nat} (h : Wk s w wr v none i) (hi : i < s.size) (h0 : swAt s i ≠ 0) : Wk s w wr v none (i + swAt s i) ∧ i + swAt s i ≤ s.size := by
  obtain ⟨hp, ⟨gs, hg, he, hs⟩, hb⟩ := h
  have hle := headSpace_pos_le (s.data.toList.drop i)
  rw [swAt_eq s i hi] at h0 ⊢
  rw [List.length_drop, Array.length_toList] at hle
  have hsz : s.data.size = s.size := rfl
  refine ⟨⟨fun a ha => (by cases ha), ⟨gs, by omega, ?_, hs⟩, hb⟩, by omega⟩
  rw [drop_cons s i hi] at h0 he
  rw [G_space _ _ _ h0] at he
  rw [← drop_cons s i hi] at he
  rw [List.drop_drop] at he
  simpa [curOf] using he

/-- white space ends a word -/
theorem space1 {s : ByteArray} {w w' : World} {v' : Value} {a i : Nat} {gs : List ByteArray} (ha : a < i) (hg : gs.length ≤ i) (he : gs ++ (G (curOf s (some a) i) (s.data.toList.drop i)).map toB = wordsB s) (hi : i < s.size) (h0 : swAt s i ≠ 0)
    (h1 : Strs w' w.heap.size v' (gs ++ [s.extract a i]) ∧ Below w.heap.size w w') : Wk s w w' v' none (i + swAt s i) ∧ i + swAt s i ≤ s.size := by
  have hle := headSpace_pos_le (s.data.toList.drop i)
  have hne := curOf_ne s a i ha (by omega)
  rw [swAt_eq s i hi] at h0 ⊢
  rw [List.length_drop, Array.length_toList] at hle
  have hsz : s.data.size = s.size := rfl
  refine ⟨⟨fun a ha => (by cases ha), ⟨gs ++ [s.extract a i], by simp; omega, ?_, h1.1⟩, h1.2⟩, by omega⟩
  rw [drop_cons s i hi] at h0 he
  rw [G_space _ _ _ h0, if_neg hne] at he
  rw [← drop_cons s i hi] at he
  rw [List.drop_drop] at he
  rw [extract_toB]
  simpa [curOf] using he

/-- what zzWords hands back -/
def WAns (s : ByteArray) (w : World) (e : Ending) (w' : World) : Prop := ∃ v, e = .returned v ∧ Strs w' w.heap.size v (wordsB s) ∧ Below w.heap.size w w'

theorem Wk.done {s : ByteArray} {w wr : World} {v : Value} (h : Wk s w wr v none s.size) : WAns s w (.returned v) wr := by
  obtain ⟨hp, ⟨gs, hg, he, hs⟩, hb⟩ := h
  have hd : s.data.toList.drop s.size = [] := List.drop_eq_nil_of_le (by rw [Array.length_toList]; exact Nat.le_refl _)
  rw [hd, G_nil] at he
  simp [curOf] at he
  rw [he] at hs
  exact ⟨v, rfl, hs, hb⟩

theorem done1 {s : ByteArray} {w w' : World} {v' : Value} {a : Nat} {gs : List ByteArray} (ha : a < s.size) (he : gs ++ (G (curOf s (some a) s.size) (s.data.toList.drop s.size)).map toB = wordsB s)
    (h1 : Strs w' w.heap.size v' (gs ++ [s.extract a s.size]) ∧ Below w.heap.size w w') : WAns s w (.returned v') w' := by
  have hd : s.data.toList.drop s.size = [] := List.drop_eq_nil_of_le (by rw [Array.length_toList]; exact Nat.le_refl _)
  have hne := curOf_ne s a s.size ha (Nat.le_refl _)
  rw [hd, G_nil, if_neg hne] at he
  refine ⟨v', rfl, ?_, h1.2⟩
  rw [← he, show List.map toB [curOf s (some a) s.size] = [s.extract a s.size] by rw [extract_toB]; rfl]
  exact h1.1

set_option maxHeartbeats 400000 in
theorem words_any (s : ByteArray) (hs : s.size ≤ 1048576) (w : World) :
    Calls Tryd.prog 12 #[.string s] w fun e w' => WAns s w e w' := by
  obtain ⟨i0, hi0, hz0, hz1, hz2⟩ := info_parts Tryd.info9
  have HI0 : Hid (Tryd.prog.info? 9 = some i0 ∧ i0.zero = some (.string ByteArray.empty) ∧ i0.size = 1 ∧ i0.bytes = 16) := ⟨hi0, hz0, hz1, hz2⟩
  clear hi0 hz0 hz1 hz2
  have hst : Hid (Wk s w w (.slice none 0 0) none 0) := ⟨fun a h => (by cases h), ⟨[], Nat.le_refl _, by simp only [List.nil_append]; unfold wordsB; rw [wordsL_G]; rfl, World.ownsRow_nil _ _ _ _⟩, Below.refl _ _⟩
  go_enter Tryd.func12, Tryd.ntmps12
  go_wp2_with fail
  go_loopw [3, 4, 5] (fun v t iv wr => ∃ (st : Option Nat) (i : Nat), i ≤ s.size ∧ iv = .int .i64 i ∧ t = stV st ∧ Wk s w wr v st i) (fun _ _ iv _ => s.size - (intOf iv).toNat)
  case atStart => exact ⟨none, 0, Nat.zero_le _, rfl, rfl, hst.out⟩
  case round =>
    clear hst
    obtain ⟨st, i, hi, rfl, rfl, hW⟩ := hrel
    have HW : Hid (Wk s w wr _ st i) := hW
    clear hW
    by_cases hlt : i < s.size
    · by_cases h0 : swAt s i = 0
      · have HN : Hid (Wk s w wr _ (some (st.getD i)) (i + 1)) := HW.out.step hlt h0
        cases st with
        | none =>
          simp only [stV]
          go_wp2_with (go_at_call 26; refine (width_any s i hlt hs _).mono ?_; rintro e w' ⟨rfl, rfl⟩; rw [h0])
          go_roundw
          case rel => exact ⟨some i, i + 1, by omega, by go_num, rfl, HN.out⟩
          case measure => simp [intOf]; omega
        | some a =>
          have ha := HW.out.pos a rfl
          simp only [stV]
          go_wp2_with (go_at_call 26; refine (width_any s i hlt hs _).mono ?_; rintro e w' ⟨rfl, rfl⟩; rw [h0])
          go_roundw
          case rel => exact ⟨some a, i + 1, by omega, by go_num, rfl, HN.out⟩
          case measure => simp [intOf]; omega
      · have hb : swAt s i ≤ 3 := by
          unfold swAt sw
          (repeat' split) <;> omega
        have hpos : (0 : Int) < (swAt s i : Int) := by omega
        obtain ⟨n, hn⟩ : ∃ n : Nat, swAt s i = n := ⟨_, rfl⟩
        have HE : Hid (swAt s i = n) := hn
        have H0 : Hid (swAt s i ≠ 0) := h0
        rw [hn] at hb hpos
        cases st with
        | none =>
          have HN := HW.out.space0 hlt h0
          rw [hn] at HN
          have HN' : Hid (Wk s w wr _ none (i + n)) := HN.1
          have hle := HN.2
          clear HN h0 hn
          simp only [stV]
          go_wp2_with (go_at_call 26; refine (width_any s i hlt hs _).mono ?_; rintro e w' ⟨rfl, rfl⟩; rw [HE.out])
          go_roundw
          case rel => exact ⟨none, i + n, by omega, by go_num, rfl, HN'.out⟩
          case measure => simp [intOf]; omega
        | some a =>
          have ha := HW.out.pos a rfl
          obtain ⟨gs, hgl, hge, hso⟩ := HW.out.run
          have HS : Hid (Strs wr w.heap.size _ gs) := hso
          have HG : Hid (gs ++ (G (curOf s (some a) i) (s.data.toList.drop i)).map toB = wordsB s) := hge
          have HB : Hid (Below w.heap.size w wr) := HW.out.bel
          have hzr : Hid (w.heap.size ≤ wr.heap.size) := HB.out.size
          clear h0 hn hso hge HW
          simp only [stV]
          go_wp2_with (first | (go_at_call 26; refine (width_any s i hlt hs _).mono ?_; rintro e wr ⟨rfl, rfl⟩; rw [HE.out]) | (at_builtin; refine wpList_append_own _ rfl _ _ 22 rfl w.heap.size 9 i0 (.string ByteArray.empty) 1 16 Tryd.underlying22 HI0.out.1 HI0.out.2.1 HI0.out.2.2.1 HI0.out.2.2.2 rfl (by decide) _ _ _ rfl (HS.out.alloc _) ⟨wr.heap.size, 0, none⟩ 1 1 [.string (s.extract a i)] rfl rfl ?c1 ?c2 ?c3 ?c4 ?c5 ?_))
          case c1 => exact cell_one_new _ _ _
          case c2 => intro u hu; simp at hu; subst hu; rfl
          case c3 => unfold maxLen; omega
          case c4 => omega
          case c5 => have := hzr.out; simp; omega
          intro v' w3 hown hgrow _
          have hN := space1 ha hgl HG.out hlt H0.out (HS.out.step HB.out (Nat.le_refl _) hown hgrow)
          rw [HE.out] at hN
          have HN : Hid (Wk s w w3 v' none (i + n)) := hN.1
          have hle := hN.2
          clear hown hgrow hN
          go_wp2_with fail
          go_roundw
          case rel => exact ⟨none, i + n, by omega, by go_num, rfl, HN.out⟩
          case measure => simp [intOf]; omega
    · obtain rfl : i = s.size := by omega
      cases st with
      | none =>
        simp only [stV]
        go_wp2_with fail
        go_ret
        exact HW.out.done
      | some a =>
        have ha := HW.out.pos a rfl
        obtain ⟨gs, hgl, hge, hso⟩ := HW.out.run
        have HS : Hid (Strs wr w.heap.size _ gs) := hso
        have HG : Hid (gs ++ (G (curOf s (some a) s.size) (s.data.toList.drop s.size)).map toB = wordsB s) := hge
        have HB : Hid (Below w.heap.size w wr) := HW.out.bel
        have hzr : Hid (w.heap.size ≤ wr.heap.size) := HB.out.size
        clear hso hge HW
        simp only [stV]
        go_wp2_with (at_builtin; refine wpList_append_own _ rfl _ _ 22 rfl w.heap.size 9 i0 (.string ByteArray.empty) 1 16 Tryd.underlying22 HI0.out.1 HI0.out.2.1 HI0.out.2.2.1 HI0.out.2.2.2 rfl (by decide) _ _ _ rfl (HS.out.alloc _) ⟨wr.heap.size, 0, none⟩ 1 1 [.string (s.extract a s.size)] rfl rfl ?c1 ?c2 ?c3 ?c4 ?c5 ?_)
        case c1 => exact cell_one_new _ _ _
        case c2 => intro u hu; simp at hu; subst hu; rfl
        case c3 => unfold maxLen; omega
        case c4 => omega
        case c5 => have := hzr.out; simp; omega
        intro v' w3 hown hgrow _
        have HN : Hid (WAns s w (.returned v') w3) := done1 ha HG.out (HS.out.step HB.out (Nat.le_refl _) hown hgrow)
        clear hown hgrow
        go_wp2_with fail
        go_ret
        exact HN.out

end Go.Proofs.Qxb6628254aDoor
