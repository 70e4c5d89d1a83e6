import Derived.Test.Qxb6628254aDoorWords
import Derived.Test.Qxb6628254aDoorShelf
import Derived.Deep.QuietTactic
import Derived.BigQuiet
import Derived.WalkSmall
namespace Go.Proofs.Qxb6628254aDoor
open Go.RowKit

/-- a slice of strings that can be read -/
def Sl (w : World) (v : Value) (xs : List ByteArray) : Prop :=
  ∃ (ao : Option Addr) (cap : Nat), v = .slice ao xs.length cap ∧ xs.length ≤ cap ∧ cap ≤ maxLen ∧
    (0 < xs.length → ∃ b off, ao = some ⟨b, off, none⟩ ∧ ∀ j x, xs[j]? = some x → w.cell? ⟨b, off + j, none⟩ = some (.string x))

theorem Sl.keep {w w' : World} {v : Value} {xs : List ByteArray} (h : Sl w v xs) (hb : Below w.heap.size w w') : Sl w' v xs := by
  obtain ⟨ao, cap, hv, hc, hm, hx⟩ := h
  refine ⟨ao, cap, hv, hc, hm, fun h0 => ?_⟩
  obtain ⟨b, off, e, hcell⟩ := hx h0
  exact ⟨b, off, e, fun j x hj => (hb.cell (World.block_lt_of_cell? w _ (hcell j x hj))).trans (hcell j x hj)⟩

theorem Strs.sl {w : World} {base : Nat} {v : Value} {xs : List ByteArray} (h : Strs w base v xs) : Sl w v xs := by
  rcases h.2 with ⟨hv, h0⟩ | ⟨g, cap, cur, hv, hg, hh, hnc, hcm, hcs, htk⟩
  · exact ⟨none, 0, by rw [hv, h0], by omega, Nat.zero_le _, fun h => absurd h (by omega)⟩
  · refine ⟨_, cap, hv, hnc, hcm, fun _ => ⟨g, 0, rfl, fun j x hj => ?_⟩⟩
    have := h.cells (g := g) (by rw [hv]; rfl) j (.string x) (by simp [hj])
    rw [Go.WideShapes.add_plain] at this
    exact this

theorem Sl.at {w : World} {ao : Option Addr} {xs : List ByteArray} {k : Nat}
    (hx : 0 < xs.length → ∃ b off, ao = some ⟨b, off, none⟩ ∧ ∀ j x, xs[j]? = some x → w.cell? ⟨b, off + j, none⟩ = some (.string x)) (hk : k < xs.length) :
    ∃ b off, ao = some ⟨b, off, none⟩ ∧ w.cell? ⟨b, off + k, none⟩ = some (.string xs[k]) := by
  obtain ⟨b, off, e, h⟩ := hx (by omega)
  exact ⟨b, off, e, h k xs[k] (by simp)⟩

/-! ### the program of a word -/
theorem last_slash (s : ByteArray) (hs : s.size ≤ 1048576) (w : World) :
    Calls Tryd.prog 37 #[.string s, .string ⟨#[47]⟩] w fun e w' => e = .returned (.int .i64 ((slashEnd s s.size : Int) - 1)) ∧ w' = w := by
  refine (Tryd.strings_LastIndex_one s ⟨#[47]⟩ rfl (by omega) w).mono fun e w' ⟨he, hw⟩ => ⟨?_, hw⟩
  rw [he]
  have h : Lib.lastIndexByte s 47 + 1 = (slashEnd s s.size : Int) := lastIdx_slashEnd s s.size
  exact ret_int (show Lib.lastIndexByte s 47 = _ by omega)

theorem program_any (s : ByteArray) (hs : s.size ≤ 1048576) (w : World) :
    Calls Tryd.prog 23 #[.string s] w fun e w' => e = .returned (.string (progB s)) ∧ w' = w := by
  have hsl := slashEnd_le s s.size
  have hls := last_slash s hs w
  obtain ⟨n, hn⟩ : ∃ n, slashEnd s s.size = n := ⟨_, rfl⟩
  have HP : Hid (progB s = s.extract n s.size) := by rw [← hn]; rfl
  rw [hn] at hsl hls
  have HL : Hid (Calls Tryd.prog 37 #[.string s, .string ⟨#[47]⟩] w fun e w' => e = .returned (.int .i64 ((n : Int) - 1)) ∧ w' = w) := hls
  have e1 : (n : Int) - 1 + 1 = (n : Int) := by omega
  clear hls hn
  go_enter Tryd.func23, Tryd.ntmps23
  go_wp2_with fail
  refine HL.out.mono ?_
  rintro e w' ⟨rfl, rfl⟩
  clear HL
  go_wp2_with fail
  go_ret
  rw [HP.out]
  exact ⟨rfl, rfl⟩

theorem zprogram_any (s : ByteArray) (hs : s.size ≤ 1048576) (w : World) :
    Calls Tryd.prog 27 #[.string s] w fun e w' => e = .returned (.string (progB s)) ∧ w' = w := by
  have HP : Hid (progB s = s.extract (slashEnd s s.size) s.size) := rfl
  go_enter Tryd.func27, Tryd.ntmps27
  go_wp2_with fail
  go_loop [3] (fun t => ∃ j : Nat, j ≤ s.size ∧ t = .int .i64 j ∧ slashEnd s s.size = slashEnd s j) (fun t => (intOf t).toNat)
  case atStart => exact ⟨s.size, Nat.le_refl _, rfl, rfl⟩
  case round =>
    obtain ⟨j, hj, rfl, he⟩ := hrel
    have HE : Hid (slashEnd s s.size = slashEnd s j) := he
    clear he
    cases j with
    | zero =>
      have HZ : Hid (progB s = s) := by show _ = _; rw [HP.out, HE.out]; show s.extract 0 s.size = s; simp
      go_wp2_with fail
      go_ret
      rw [HZ.out]
      exact ⟨rfl, rfl⟩
    | succ k =>
      have hk : k < s.size := by omega
      have e1 : ((k + 1 : Nat) : Int) - 1 = (k : Int) := by omega
      have e0 : ((k + 1 : Nat) : Int) = (k : Int) + 1 := by omega
      by_cases hc : s[k].toNat = 47
      · have hU : s[k] = 47 := UInt8.toNat_inj.1 hc
        have HZ : Hid (progB s = s.extract (k + 1) s.size) := by
          show _ = _
          rw [HP.out, HE.out]
          unfold slashEnd
          rw [bang hk, if_pos hc]
        clear hc
        go_wp2_with fail
        go_ret
        rw [HZ.out]
        exact ⟨rfl, rfl⟩
      · have hn : ((s[k].toNat : Int) == 47) = false := beq_no (by omega)
        have HZ : Hid (slashEnd s s.size = slashEnd s k) := by
          show _ = _
          rw [HE.out]
          conv => lhs; unfold slashEnd
          rw [bang hk, if_neg hc]
        clear hc
        go_wp2_with fail
        go_round
        case rel => exact ⟨k, by omega, by go_num, HZ.out⟩
        case measure => simp [intOf]

/-! ### a slash; an end -/
theorem extract_at (s : ByteArray) (a i : Nat) (h : i < (s.extract a s.size).size) (ha : a + i < s.size) : (s.extract a s.size)[i] = s[a + i] := by
  have e1 : (s.extract a s.size)[i] = (s.extract a s.size).data.toList[i]'(by rw [Array.length_toList]; exact h) := rfl
  rw [e1]
  simp only [Lib.extract_data]
  rw [List.getElem_take, List.getElem_drop]
  rfl

theorem noslash_any (p : ByteArray) (hs : p.size ≤ 1048576) (hn : ∀ i (h : i < p.size), p[i].toNat ≠ 47) (w : World) :
    Calls Tryd.prog 19 #[.string p] w fun e w' => e = .returned (.bool false) ∧ w' = w := by
  go_enter Tryd.func19, Tryd.ntmps19
  go_wp2_with fail
  go_loop [3] (fun t => ∃ j : Nat, j ≤ p.size ∧ t = .int .i64 j) (fun t => p.size - (intOf t).toNat)
  case atStart => exact ⟨0, Nat.zero_le _, rfl⟩
  case round =>
    obtain ⟨j, hj, rfl⟩ := hrel
    by_cases hlt : j < p.size
    · have hne : ((p[j].toNat : Int) == 47) = false := beq_no (by have := hn j hlt; omega)
      go_wp2_with fail
      go_round
      case rel => exact ⟨j + 1, by omega, by go_num⟩
      case measure => simp [intOf]; omega
    · go_wp2_with fail
      go_ret
      exact ⟨rfl, rfl⟩

theorem progB_noslash (s : ByteArray) (i : Nat) (h : i < (progB s).size) : (progB s)[i].toNat ≠ 47 := by
  have hsl := slashEnd_le s s.size
  have hz : (progB s).size = s.size - slashEnd s s.size := by unfold progB; rw [ByteArray.size_extract]; omega
  have e : (progB s)[i] = s[slashEnd s s.size + i] := extract_at s (slashEnd s s.size) i h (by omega)
  rw [e]
  have := slashEnd_none s s.size (slashEnd s s.size + i) (by omega) (by omega)
  rwa [bang (by omega)] at this

theorem progB_size (s : ByteArray) : (progB s).size ≤ s.size := by
  unfold progB; rw [ByteArray.size_extract]; omega

theorem suffix_any (s : ByteArray) (hs : s.size ≤ 1048576) (w : World) :
    Calls Tryd.prog 20 #[.string s, .string (progB s)] w fun e w' => e = .returned (.bool true) ∧ w' = w := by
  have hsl := slashEnd_le s s.size
  have hz : (progB s).size = s.size - slashEnd s s.size := by unfold progB; rw [ByteArray.size_extract]; omega
  obtain ⟨n, hn⟩ : ∃ n, slashEnd s s.size = n := ⟨_, rfl⟩
  obtain ⟨p, hp⟩ : ∃ p, progB s = p := ⟨_, rfl⟩
  have HP : Hid (s.extract n s.size = p) := by rw [← hn, ← hp]; rfl
  rw [hn] at hsl hz
  rw [hp] at hz ⊢
  have e1 : (s.size : Int) - (p.size : Int) = (n : Int) := by omega
  have hle : (p.size : Int) ≤ (s.size : Int) := by omega
  have HE := HP.out
  clear hp hn hz HP
  go_enter Tryd.func20, Tryd.ntmps20
  go_wp2_with fail
  go_ret
  exact ⟨rfl, rfl⟩

/-! ### two slices with the same strings -/
theorem eq_any (va vb : Value) (xs : List ByteArray) (hl : xs.length ≤ 1048576) (w : World) (ha : Sl w va xs) (hb : Sl w vb xs) :
    Calls Tryd.prog 25 #[va, vb] w fun e w' => e = .returned (.bool true) ∧ ∃ n, w' = w.drewN n := by
  obtain ⟨ao, ca, rfl, hca, hma, hxa⟩ := ha
  obtain ⟨bo, cb, rfl, hcb, hmb, hxb⟩ := hb
  go_enter Tryd.func25, Tryd.ntmps25
  go_wp2_with fail
  go_loopw [5] (fun t wr => ∃ j n : Nat, j ≤ xs.length ∧ t = .int .i64 j ∧ wr = w.drewN n) (fun t _ => xs.length - (intOf t).toNat)
  case atStart => exact ⟨0, 0, Nat.zero_le _, rfl, rfl⟩
  case round =>
    obtain ⟨j, n, hj, rfl, hwr⟩ := hrel
    have HW : Hid (wr = w.drewN n) := hwr
    by_cases hlt : j < xs.length
    · obtain ⟨b1, o1, rfl, c1⟩ := Sl.at hxa hlt
      obtain ⟨b2, o2, rfl, c2⟩ := Sl.at hxb hlt
      have d1 : wr.cell? ⟨b1, o1 + j, none⟩ = some (.string xs[j]) := by rw [HW.out]; exact c1
      have d2 : wr.cell? ⟨b2, o2 + j, none⟩ = some (.string xs[j]) := by rw [HW.out]; exact c2
      clear c1 c2 hxa hxb hwr
      obtain ⟨x, hx⟩ : ∃ x, xs[j] = x := ⟨_, rfl⟩
      rw [hx] at d1 d2
      have hlt' : (j : Int) < (xs.length : Int) := by omega
      clear hx
      go_wp2_with fail
      go_quiet (fail)
      go_wp2_with fail
      go_roundw
      case rel => exact ⟨j + 1, n + nq, by omega, by go_num, by rw [HW.out, World.drewN_drewN]⟩
      case measure => simp [intOf]; omega
    · clear hwr
      go_wp2_with fail
      go_ret
      exact ⟨rfl, n, HW.out⟩

end Go.Proofs.Qxb6628254aDoor
