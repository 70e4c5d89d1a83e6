import Derived.Test.Qxb6628208aFmtDecode
namespace Go.Proofs.Qxb6628208aFmt
open Go.RowKit Go.Extern.Stop Go.Stop Go.Extern

theorem bytes_back (s : ByteArray) : (⟨s.data.toList.toArray⟩ : ByteArray) = s := by cases s; simp

theorem decodes_walk (F : Interp) (s : ByteArray) (hm : s.size ≤ maxLen) (w : World) (hF : F.answers w.tape) :
    Calls Tryf.prog 3 #[.string s] w fun e w' => e = .returned (.bool true) ∧ Below w.heap.size w w' := by
  unfold maxLen at hm
  by_cases hs : 1048576 < s.size
  · go_enter Tryf.func3, Tryf.ntmps3
    go_wp2
    go_ret
    exact ⟨rfl, Below.refl _ _⟩
  have hs' : s.size ≤ 1048576 := by omega
  go_enter Tryf.func3, Tryf.ntmps3
  go_wp2_with (go_at_call 5; go_in)
  refine (quote_any F s hs' w hF).mono ?_
  rintro e w1 ⟨hq, hb1⟩
  rcases hq with ⟨hall, rfl⟩ | ⟨hnot, a, rfl⟩
  · have ha : allP s.data.toList = true := (allP_iff _).2 hall
    have HA : Hid (∀ c ∈ s.data.toList, pr c = true) := hall
    clear hall
    go_wp2_with fail
    refine (allp_any s hs' w1).mono ?_
    rintro e w2 ⟨rfl, rfl⟩
    go_wp2_with fail
    refine (decode_any ⟨(quoted s.data.toList).toArray⟩ s.data.toList (by simp) (by rw [Array.length_toList]; exact hs') HA.out w2).mono ?_
    rintro e w3 ⟨rfl, hb3⟩
    rw [bytes_back]
    go_wp2_with fail
    go_ret
    exact ⟨rfl, hb1.trans (hb3.mono hb1.size)⟩
  · have ha : allP s.data.toList = false := by
      cases h : allP s.data.toList with
      | false => rfl
      | true => exact absurd ((allP_iff _).1 h) hnot
    clear hnot
    go_wp2_with fail
    refine (allp_any s hs' w1).mono ?_
    rintro e w2 ⟨rfl, rfl⟩
    go_wp2_with fail
    go_ret
    exact ⟨rfl, hb1⟩

end Go.Proofs.Qxb6628208aFmt
