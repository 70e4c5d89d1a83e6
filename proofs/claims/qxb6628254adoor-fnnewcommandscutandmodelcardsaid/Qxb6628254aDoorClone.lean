import Derived.Test.Qxb6628254aDoorSizes
import Derived.Deep.OwnRows
import Derived.Lib.SliceRun
import Derived.Lib.AppendStr
import Derived.Laws.IdiomStrings
import Derived.Laws.BytesArg
namespace Go.Proofs.Qxb6628254aDoor
open Go.RowKit

def nilV : Value → Bool
  | .slice none _ _ => true
  | _ => false

theorem Sl.form {w : World} {v : Value} {xs : List ByteArray} (h : Sl w v xs) : ∃ ao cap, v = .slice ao xs.length cap ∧ nilV v = ao.isNone := by
  obtain ⟨ao, cap, hv, _⟩ := h
  refine ⟨ao, cap, hv, ?_⟩
  rw [hv]
  cases ao <;> rfl

/-- what zzClone hands back -/
def CAns (xs : List ByteArray) (va : Value) (w : World) (e : Ending) (w' : World) : Prop := ∃ v, e = .returned v ∧ Sl w' v xs ∧ nilV v = nilV va ∧ Below w.heap.size w w'

theorem strs_of_row {w : World} {b : Nat} {xs : List ByteArray} {f : Nat → Value} (h : w.rowIs b 9 xs.length f) (hf : ∀ j (hj : j < xs.length), f j = .string xs[j]) (hm : xs.length ≤ maxLen) : Sl w (.slice (some ⟨b, 0, none⟩) xs.length xs.length) xs := by
  refine ⟨_, _, rfl, Nat.le_refl _, hm, fun _ => ⟨b, 0, rfl, fun j x hj => ?_⟩⟩
  have hlt : j < xs.length := (List.getElem?_eq_some_iff.1 hj).1
  have hx : xs[j] = x := (List.getElem?_eq_some_iff.1 hj).2
  have := h.cell hlt
  rw [hf j hlt, hx] at this
  simpa using this

theorem clone_any (xs : List ByteArray) (va : Value) (w : World) (hl : xs.length ≤ 1048576) (ha : Sl w va xs) :
    Calls Tryd.prog 7 #[va] w fun e w' => CAns xs va w e w' := by
  have HA : Hid (Sl w va xs) := ha
  obtain ⟨ao, ca, rfl, hca, hma, hxa⟩ := ha
  cases ao with
  | none =>
    have hn0 : xs.length = 0 := by
      by_cases h : 0 < xs.length
      · obtain ⟨b, off, e, _⟩ := hxa h; cases e
      · omega
    have hnil := fun w => Lib.run_eql_slice_nil (P := Tryd.prog) w 22 9 none xs.length ca 0 0 Tryd.underlying22
    have HN : Hid (Sl w (.slice none 0 0) xs) := ⟨none, 0, by rw [hn0], by omega, Nat.zero_le _, fun h => absurd h (by omega)⟩
    clear hxa hn0
    go_enter Tryd.func7, Tryd.ntmps7
    go_wp2_with fail
    go_ret
    exact ⟨_, rfl, HN.out, rfl, Below.refl _ _⟩
  | some a =>
    have hnil := fun w => Lib.run_eql_slice_nil (P := Tryd.prog) w 22 9 (some a) xs.length ca 0 0 Tryd.underlying22
    have hmk := run_make_row' (P := Tryd.prog) 22 9 (.string ByteArray.empty) 16 Tryd.underlying22 Tryd.info9 rfl .i64 .i64 xs.length (by omega) (by omega)
    have hst : Hid ((w.alloc (.cells (madeCells #[.string ByteArray.empty] xs.length) 9)).rowIs w.heap.size 9 xs.length (fun j => if j < 0 then .string (xs.getD j ByteArray.empty) else .string ByteArray.empty) ∧ Below w.heap.size w (w.alloc (.cells (madeCells #[.string ByteArray.empty] xs.length) 9))) :=
      ⟨(World.rowIs_made w _ xs.length 9).congr (fun i _ => by simp), (Below.refl _ _).alloc (Nat.le_refl _) _⟩
    go_enter Tryd.func7, Tryd.ntmps7
    go_wp2_with fail
    go_loopw [4] (fun i wr => ∃ k : Nat, k ≤ xs.length ∧ i = .int .i64 k ∧ wr.rowIs w.heap.size 9 xs.length (fun j => if j < k then .string (xs.getD j ByteArray.empty) else .string ByteArray.empty) ∧ Below w.heap.size w wr) (fun i _ => xs.length - (intOf i).toNat)
    case atStart => exact ⟨0, Nat.zero_le _, rfl, hst.out⟩
    case round =>
      clear hst
      obtain ⟨k, hk, rfl, hrow, hbel⟩ := hrel
      by_cases hlt : k < xs.length
      · obtain ⟨b1, o1, he, c1⟩ := Sl.at hxa hlt
        cases he
        have c2 := (hbel.cell (World.block_lt_of_cell? w _ c1)).trans c1
        have d1 := hrow.cell hlt
        have d2 := hrow.frozen k
        have hz := hrow.lt
        rw [if_neg (Nat.lt_irrefl k)] at d1
        obtain ⟨x, hx⟩ : ∃ x, xs[k] = x := ⟨_, rfl⟩
        rw [hx] at c2
        have HN : Hid ((wr.setCell ⟨w.heap.size, k, none⟩ (.string x)).rowIs w.heap.size 9 xs.length (fun j => if j < k + 1 then .string (xs.getD j ByteArray.empty) else .string ByteArray.empty) ∧ Below w.heap.size w (wr.setCell ⟨w.heap.size, k, none⟩ (.string x))) := by
          refine ⟨(hrow.set k _).congr (fun i hi => ?_), hbel.setCell (Nat.le_refl _) _⟩
          by_cases e : i = k
          · subst e; simp [← hx, hi]
          · have e2 : (i < k + 1) = (i < k) := by apply propext; omega
            simp [e, e2]
        clear hrow hbel c1 hx hxa
        go_wp2_with fail
        go_roundw
        case rel => exact ⟨k + 1, by omega, by go_num, HN.out⟩
        case measure => simp [intOf]; omega
      · obtain rfl : k = xs.length := by omega
        have HN : Hid (Sl wr (.slice (some ⟨w.heap.size, 0, none⟩) xs.length xs.length) xs ∧ Below w.heap.size w wr) :=
          ⟨strs_of_row hrow (fun j hj => by simp [hj]) (by unfold maxLen; omega), hbel⟩
        clear hrow hbel
        go_wp2_with fail
        go_ret
        exact ⟨_, rfl, HN.out.1, rfl, HN.out.2⟩

theorem same_any (xs : List ByteArray) (va vb : Value) (w : World) (hl : xs.length ≤ 1048576) (ha : Sl w va xs) (hb : Sl w vb xs) (hn : nilV va = nilV vb) :
    Calls Tryd.prog 9 #[va, vb] w fun e w' => e = .returned (.bool true) ∧ ∃ n, w' = w.drewN n := by
  have hc := eq_any va vb xs hl w ha hb
  obtain ⟨ao, ca, rfl, ea⟩ := ha.form
  obtain ⟨bo, cb, rfl, eb⟩ := hb.form
  rw [ea, eb] at hn
  have hnil1 := fun w => Lib.run_eql_slice_nil (P := Tryd.prog) w 22 9 ao xs.length ca 0 0 Tryd.underlying22
  have hnil2 := fun w => Lib.run_eql_slice_nil (P := Tryd.prog) w 22 9 bo xs.length cb 0 0 Tryd.underlying22
  rw [hn] at hnil1
  have HC := hc
  have HC' : Hid (Calls Tryd.prog 25 #[.slice ao xs.length ca, .slice bo xs.length cb] w fun e w' => e = .returned (.bool true) ∧ ∃ n, w' = w.drewN n) := HC
  clear hc HC ha hb ea eb hn
  obtain ⟨q, hq⟩ : ∃ q, bo.isNone = q := ⟨_, rfl⟩
  rw [hq] at hnil1 hnil2
  clear hq
  go_enter Tryd.func9, Tryd.ntmps9
  cases q
  all_goals
    go_wp2_with fail
    refine HC'.out.mono ?_
    rintro e w' ⟨rfl, n, rfl⟩
    go_wp2_with fail
    go_ret
    exact ⟨rfl, n, rfl⟩

end Go.Proofs.Qxb6628254aDoor
