import Derived.Test.Qxb6628208aFmtBack
import Derived.Deep.QuietTactic
import Derived.BigQuiet
import Derived.WalkSmall
import Derived.Lib.Strings
namespace Go.Proofs.Qxb6628208aFmt
open Go.RowKit Go.Extern.Stop Go.Stop Go.Extern

theorem specials_snoc (l : List UInt8) (c : UInt8) : specials (l ++ [c]) = specials l + if sp c = true then 1 else 0 := by
  unfold specials
  by_cases h : sp c = true <;> simp [List.filter_append, h]

theorem specials_any (s : ByteArray) (hs : s.size ≤ 1048576) (w : World) :
    Calls Tryf.prog 15 #[.string s] w fun e w' => e = .returned (.int .i64 (specials s.data.toList)) ∧ w' = w := by
  go_enter Tryf.func15, Tryf.ntmps15
  go_wp2
  go_loop [3, 4] (fun n i => ∃ k : Nat, k ≤ s.size ∧ i = .int .i64 k ∧ n = .int .i64 (specials (s.data.toList.take k))) (fun _ i => s.size - (intOf i).toNat)
  case atStart => exact ⟨0, Nat.zero_le _, rfl, rfl⟩
  case round =>
    obtain ⟨k, hk, rfl, rfl⟩ := hrel
    have hb : specials (s.data.toList.take k) ≤ 1048576 := by
      have h1 := specials_le (s.data.toList.take k)
      have h2 : (s.data.toList.take k).length ≤ k := List.length_take_le _ _
      omega
    by_cases hlt : k < s.size
    · have HN : Hid (specials (s.data.toList.take (k + 1)) = specials (s.data.toList.take k) + if sp s[k] = true then 1 else 0) := by
        show _ = _
        rw [take_snoc s k hlt, specials_snoc]
      obtain ⟨d1, d2, c4, c5⟩ : ∃ d1 d2 : Bool, ((s[k].toNat : Int) == 34) = d1 ∧ ((s[k].toNat : Int) == 92) = d2 := ⟨_, _, rfl, rfl⟩
      have HS : Hid ((sp s[k] = true) = ((d1 || d2) = true)) := by
        show _ = _
        rw [← c4, ← c5]
        unfold sp
        apply propext
        simp
        omega
      cases d1 <;> cases d2
      all_goals
        go_wp2
        go_round
        case rel => exact ⟨k + 1, by omega, by go_num, by rw [HN.out]; simp only [HS.out]; simp⟩
        case measure => simp [intOf]; omega
    · have HA : Hid (s.data.toList.take k = s.data.toList) := List.take_of_length_le (by rw [Array.length_toList]; exact Nat.le_of_not_lt hlt)
      go_wp2
      go_ret
      rw [← HA.out]
      exact ⟨by rw [List.take_take]; simp, rfl⟩

theorem one_bad (s : ByteArray) (hs : s.size ≤ 1048576) (ha : allP s.data.toList = false) (w : World) :
    Calls Tryf.prog 10 #[.string s, .string ByteArray.empty, .bool true] w fun e w' => e = .returned (.bool true) ∧ w' = w := by
  go_enter Tryf.func10, Tryf.ntmps10
  go_wp2_with (go_at_call 7; refine (allp_any s hs _).mono ?_; rintro e w' ⟨rfl, rfl⟩)
  go_ret
  exact ⟨rfl, rfl⟩

theorem one_ok (s q : ByteArray) (hs : s.size ≤ 1048576) (ha : allP s.data.toList = true) (hq : q.data.toList = quoted s.data.toList) (w : World) :
    Calls Tryf.prog 10 #[.string s, .string q, .bool false] w fun e w' => e = .returned (.bool true) ∧ w' = w := by
  have hql : q.size = (quoted s.data.toList).length := by rw [← hq, Array.length_toList]; rfl
  have hsl : s.data.toList.length = s.size := by rw [Array.length_toList]; rfl
  have hq2 : q.size = s.size + 2 + specials s.data.toList := by rw [hql, quoted_length, hsl]
  have hsp := specials_le s.data.toList
  have hq0 : 2 ≤ q.size := by omega
  have g0 : ∀ h : 0 < q.size, q[0] = 34 := fun h => byte_at (pre := []) (post := esc s.data.toList ++ [34]) (by rw [hq]; rfl) h
  have g1 : ∀ h : q.size - 1 < q.size, q[q.size - 1] = 34 := by
    intro h
    have hlen : (34 :: esc s.data.toList).length = q.size - 1 := by
      have h1 := quoted_length s.data.toList
      have h2 := esc_length s.data.toList
      simp; omega
    have := byte_at (q := q) (pre := 34 :: esc s.data.toList) (post := []) (c := 34) (by rw [hq]; rfl) (by rw [hlen]; exact h)
    simpa only [hlen] using this
  have hq00 : 0 < q.size := Nat.lt_of_lt_of_le (by decide) hq0
  have hq01 : q.size - 1 < q.size := Nat.sub_lt hq00 (by decide)
  have g0' := g0 hq00
  have g1' := g1 hq01
  have HQ : Hid (q.size = s.size + 2 + specials s.data.toList) := hq2
  have hb1 : (specials s.data.toList : Int) ≤ 1048576 := by omega
  have hb2 : (s.size : Int) ≤ 1048576 := by omega
  have e1 : ((q.size : Int) == (s.size : Int) + 2 + (specials s.data.toList : Int)) = true := by simp; omega
  have e2 : (s.size : Int) + 2 + (specials s.data.toList : Int) - 1 = ((q.size - 1 : Nat) : Int) := by omega
  clear hql hq2 hsl hsp g0 g1
  go_enter Tryf.func10, Tryf.ntmps10
  go_wp2_with (first | (go_at_call 7; refine (allp_any s hs _).mono ?_; rintro e w' ⟨rfl, rfl⟩) | (go_at_call 15; refine (specials_any s hs _).mono ?_; rintro e w' ⟨rfl, rfl⟩))
  go_ret
  exact ⟨rfl, rfl⟩

/-- what QuoteString hands back, its text under a name of its own -/
def QAns2 (l : List UInt8) (e : Ending) : Prop :=
  (allP l = true ∧ ∃ q : ByteArray, q.data.toList = quoted l ∧ e = .returned (.tuple #[.string q, .nilIface])) ∨
  (allP l = false ∧ ∃ a, e = .returned (.tuple #[.string ByteArray.empty, .iface 48 (.pointer (some a))]))

theorem quote_q (F : Interp) (s : ByteArray) (hs : s.size ≤ 1048576) (w : World) (hF : F.answers w.tape) :
    Calls Tryf.prog 6 #[.string s] w fun e w' => QAns2 s.data.toList e ∧ Below w.heap.size w w' := by
  refine (quote_any F s hs w hF).mono fun e w' ⟨h, hb⟩ => ⟨?_, hb⟩
  rcases h with ⟨hall, rfl⟩ | ⟨hnot, a, rfl⟩
  · exact .inl ⟨(allP_iff _).2 hall, _, by simp, rfl⟩
  · refine .inr ⟨?_, a, rfl⟩
    cases h : allP s.data.toList with
    | false => rfl
    | true => exact absurd ((allP_iff _).1 h) hnot

theorem append_data (a b : ByteArray) : (a ++ b).data.toList = a.data.toList ++ b.data.toList := by simp

theorem allP_append (l m : List UInt8) : allP (l ++ m) = (allP l && allP m) := by simp [allP]

theorem ret_bool {a b : Bool} (h : a = b) : Ending.returned (.bool a) = .returned (.bool b) := by rw [h]

theorem inside {q : ByteArray} {l : List UInt8} (h : q.data.toList = quoted l) : (q.extract 1 (q.size - 1)).data.toList = esc l := by
  have hz : q.size = (esc l).length + 2 := by
    have : q.data.toList.length = q.size := by rw [Array.length_toList]; rfl
    rw [← this, h]; simp [quoted]
  rw [Lib.extract_data, h, hz]
  simp [quoted]

theorem joined_eq {a b qa qb qab : ByteArray} (ha : qa.data.toList = quoted a.data.toList) (hb : qb.data.toList = quoted b.data.toList) (hab : qab.data.toList = quoted (a ++ b).data.toList) :
    (qab.toList == (({ data := #[34] } : ByteArray) ++ qa.extract 1 (qa.size - 1) ++ qb.extract 1 (qb.size - 1) ++ ({ data := #[34] } : ByteArray)).toList) = true := by
  rw [Lib.toList_data, Lib.toList_data, hab, append_data, append_data, append_data, append_data, inside ha, inside hb]
  simp [quoted, esc_append]

theorem splits_walk (F : Interp) (a b : ByteArray) (hma : a.size ≤ maxLen) (hmb : b.size ≤ maxLen) (w : World) (hF : F.answers w.tape) :
    Calls Tryf.prog 4 #[.string a, .string b] w fun e w' => e = .returned (.bool true) ∧ Below w.heap.size w w' := by
  unfold maxLen at hma hmb
  by_cases h1 : 1048576 < (a.size : Int)
  · go_enter Tryf.func4, Tryf.ntmps4
    go_wp2_with (go_at_call 9; go_in)
    go_ret
    exact ⟨rfl, Below.refl _ _⟩
  by_cases h2 : 1048576 < (b.size : Int)
  · go_enter Tryf.func4, Tryf.ntmps4
    go_wp2_with (go_at_call 9; go_in)
    go_ret
    exact ⟨rfl, Below.refl _ _⟩
  by_cases h3 : 1048576 < (a.size : Int) + (b.size : Int)
  · go_enter Tryf.func4, Tryf.ntmps4
    go_wp2_with (go_at_call 9; go_in)
    go_ret
    exact ⟨rfl, Below.refl _ _⟩
  have ha : a.size ≤ 1048576 := by omega
  have hb : b.size ≤ 1048576 := by omega
  have hab : (a ++ b).size ≤ 1048576 := by rw [ByteArray.size_append]; omega
  go_enter Tryf.func4, Tryf.ntmps4
  go_wp2_with (go_at_call 9; go_in)
  refine (quote_q F a ha w hF).mono ?_
  rintro e w1 ⟨hqa, hb1⟩
  have HB1 : Hid (Below w.heap.size w w1) := hb1
  clear hb1
  rcases hqa with ⟨pa, qa, hqa, rfl⟩ | ⟨pa, xa, rfl⟩
  · go_wp2_with fail
    refine (quote_q F b hb w1 (by rw [HB1.out.tape]; exact hF)).mono ?_
    rintro e w2 ⟨hqb, hb2⟩
    have HB2 : Hid (Below w.heap.size w w2) := HB1.out.trans (hb2.mono HB1.out.size)
    clear hb2
    rcases hqb with ⟨pb, qb, hqb, rfl⟩ | ⟨pb, xb, rfl⟩
    · go_wp2_with fail
      refine (quote_q F (a ++ b) hab w2 (by rw [HB2.out.tape]; exact hF)).mono ?_
      rintro e w3 ⟨hqab, hb3⟩
      have HB3 : Hid (Below w.heap.size w w3) := HB2.out.trans (hb3.mono HB2.out.size)
      clear hb3
      have pe : allP (a ++ b).data.toList = true := by rw [append_data, allP_append, pa, pb]; rfl
      rcases hqab with ⟨pab, qab, hqab, rfl⟩ | ⟨pab, xab, rfl⟩
      rotate_left
      · rw [pe] at pab; cases pab
      have HQ : Hid (qa.data.toList = quoted a.data.toList ∧ qb.data.toList = quoted b.data.toList ∧ qab.data.toList = quoted (a ++ b).data.toList) := ⟨hqa, hqb, hqab⟩
      have HPA : Hid (allP a.data.toList = true ∧ allP b.data.toList = true ∧ allP (a ++ b).data.toList = true) := ⟨pa, pb, pe⟩
      clear pe pab pa pb hqa hqb hqab
      go_wp2_with fail
      refine (one_ok a qa ha HPA.out.1 HQ.out.1 _).mono ?_
      rintro e w4 ⟨rfl, rfl⟩
      go_wp2_with fail
      refine (one_ok b qb hb HPA.out.2.1 HQ.out.2.1 _).mono ?_
      rintro e w5 ⟨rfl, rfl⟩
      go_wp2_with fail
      refine (one_ok (a ++ b) qab hab HPA.out.2.2 HQ.out.2.2 _).mono ?_
      rintro e w6 ⟨rfl, rfl⟩
      have hla : 2 ≤ qa.size := by have h := congrArg List.length HQ.out.1; rw [Array.length_toList, quoted_length] at h; have e : qa.data.size = qa.size := rfl; omega
      have hlb : 2 ≤ qb.size := by have h := congrArg List.length HQ.out.2.1; rw [Array.length_toList, quoted_length] at h; have e : qb.data.size = qb.size := rfl; omega
      go_wp2_with fail
      have ea : (qa.size : Int) - 1 = ((qa.size - 1 : Nat) : Int) := by omega
      have eb : (qb.size : Int) - 1 = ((qb.size - 1 : Nat) : Int) := by omega
      have la : (1 : Int) ≤ ((qa.size - 1 : Nat) : Int) := by omega
      have lb : (1 : Int) ≤ ((qb.size - 1 : Nat) : Int) := by omega
      have sa : qa.size ≤ 4194304 := by have h := congrArg List.length HQ.out.1; rw [Array.length_toList, quoted_length, Array.length_toList] at h; have h5 := specials_le a.data.toList; rw [Array.length_toList] at h5; have e : qa.data.size = qa.size := rfl; have e' : a.data.size = a.size := rfl; omega
      have sb : qb.size ≤ 4194304 := by have h := congrArg List.length HQ.out.2.1; rw [Array.length_toList, quoted_length, Array.length_toList] at h; have h5 := specials_le b.data.toList; rw [Array.length_toList] at h5; have e : qb.data.size = qb.size := rfl; have e' : b.data.size = b.size := rfl; omega
      go_quiet (fail)
      go_wp2_with fail
      go_ret
      exact ⟨ret_bool (joined_eq HQ.out.1 HQ.out.2.1 HQ.out.2.2), below_drewN HB3.out _⟩
    · go_wp2_with fail
      refine (quote_q F (a ++ b) hab w2 (by rw [HB2.out.tape]; exact hF)).mono ?_
      rintro e w3 ⟨hqab, hb3⟩
      have HB3 : Hid (Below w.heap.size w w3) := HB2.out.trans (hb3.mono HB2.out.size)
      clear hb3
      have pe : allP (a ++ b).data.toList = false := by rw [append_data, allP_append, pa, pb]; rfl
      rcases hqab with ⟨pab, qab, hqab, rfl⟩ | ⟨pab, xab, rfl⟩
      · rw [pe] at pab; cases pab
      have HQ : Hid (qa.data.toList = quoted a.data.toList) := hqa
      have HPA : Hid (allP a.data.toList = true ∧ allP b.data.toList = false ∧ allP (a ++ b).data.toList = false) := ⟨pa, pb, pe⟩
      clear pe pab pa pb hqa
      go_wp2_with fail
      refine (one_ok a qa ha HPA.out.1 HQ.out _).mono ?_
      rintro e w4 ⟨rfl, rfl⟩
      go_wp2_with fail
      refine (one_bad b hb HPA.out.2.1 _).mono ?_
      rintro e w5 ⟨rfl, rfl⟩
      go_wp2_with fail
      refine (one_bad (a ++ b) hab HPA.out.2.2 _).mono ?_
      rintro e w6 ⟨rfl, rfl⟩
      go_wp2_with fail
      go_ret
      exact ⟨rfl, HB3.out⟩
  · go_wp2_with fail
    refine (quote_q F b hb w1 (by rw [HB1.out.tape]; exact hF)).mono ?_
    rintro e w2 ⟨hqb, hb2⟩
    have HB2 : Hid (Below w.heap.size w w2) := HB1.out.trans (hb2.mono HB1.out.size)
    clear hb2
    rcases hqb with ⟨pb, qb, hqb, rfl⟩ | ⟨pb, xb, rfl⟩
    · go_wp2_with fail
      refine (quote_q F (a ++ b) hab w2 (by rw [HB2.out.tape]; exact hF)).mono ?_
      rintro e w3 ⟨hqab, hb3⟩
      have HB3 : Hid (Below w.heap.size w w3) := HB2.out.trans (hb3.mono HB2.out.size)
      clear hb3
      have pe : allP (a ++ b).data.toList = false := by rw [append_data, allP_append, pa, pb]; rfl
      rcases hqab with ⟨pab, qab, hqab, rfl⟩ | ⟨pab, xab, rfl⟩
      · rw [pe] at pab; cases pab
      have HQ : Hid (qb.data.toList = quoted b.data.toList) := hqb
      have HPA : Hid (allP a.data.toList = false ∧ allP b.data.toList = true ∧ allP (a ++ b).data.toList = false) := ⟨pa, pb, pe⟩
      clear pe pab pa pb hqb
      go_wp2_with fail
      refine (one_bad a ha HPA.out.1 _).mono ?_
      rintro e w4 ⟨rfl, rfl⟩
      go_wp2_with fail
      refine (one_ok b qb hb HPA.out.2.1 HQ.out _).mono ?_
      rintro e w5 ⟨rfl, rfl⟩
      go_wp2_with fail
      refine (one_bad (a ++ b) hab HPA.out.2.2 _).mono ?_
      rintro e w6 ⟨rfl, rfl⟩
      go_wp2_with fail
      go_ret
      exact ⟨rfl, HB3.out⟩
    · go_wp2_with fail
      refine (quote_q F (a ++ b) hab w2 (by rw [HB2.out.tape]; exact hF)).mono ?_
      rintro e w3 ⟨hqab, hb3⟩
      have HB3 : Hid (Below w.heap.size w w3) := HB2.out.trans (hb3.mono HB2.out.size)
      clear hb3
      have pe : allP (a ++ b).data.toList = false := by rw [append_data, allP_append, pa, pb]; rfl
      rcases hqab with ⟨pab, qab, hqab, rfl⟩ | ⟨pab, xab, rfl⟩
      · rw [pe] at pab; cases pab
      have HPA : Hid (allP a.data.toList = false ∧ allP b.data.toList = false ∧ allP (a ++ b).data.toList = false) := ⟨pa, pb, pe⟩
      clear pe pab pa pb
      go_wp2_with fail
      refine (one_bad a ha HPA.out.1 _).mono ?_
      rintro e w4 ⟨rfl, rfl⟩
      go_wp2_with fail
      refine (one_bad b hb HPA.out.2.1 _).mono ?_
      rintro e w5 ⟨rfl, rfl⟩
      go_wp2_with fail
      refine (one_bad (a ++ b) hab HPA.out.2.2 _).mono ?_
      rintro e w6 ⟨rfl, rfl⟩
      go_wp2_with fail
      go_ret
      exact ⟨rfl, HB3.out⟩

end Go.Proofs.Qxb6628208aFmt
