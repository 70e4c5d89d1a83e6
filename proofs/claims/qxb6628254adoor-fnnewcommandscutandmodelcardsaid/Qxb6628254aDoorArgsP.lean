/-
  Plain facts on arguments; and slices that lie apart.
-/
import Derived.Test.Qxb6628254aDoorJoin
namespace Go.Proofs.Qxb6628254aDoor
open Go.RowKit

/-! ### slices that the call has built, side by side -/
def Apart (u v : Value) : Prop := ∀ g, u.ownBlock = some g → v.ownBlock ≠ some g
theorem Apart.symm {u v : Value} (h : Apart u v) : Apart v u := fun g hv hu => h g hu hv

theorem Apart.keep {w w' : World} {u v : Value} {base : Nat} {e : TypeId} {size n : Nat} {ys : List Value} (h : Apart u v) (ho : w.ownsRow base e size u n ys) (hg : w.grownBy w' v.ownBlock) : w'.ownsRow base e size u n ys := by
  refine ho.kept hg ?_
  cases hu : u.ownBlock with
  | none => exact .inl rfl
  | some g => exact .inr (fun e => h g hu e.symm)

theorem Apart.after {u v v' : Value} {H : Nat} (h : Apart u v) (hat : v'.ownBlock = v.ownBlock ∨ v'.ownBlock = some H) (hu : ∀ g, u.ownBlock = some g → g < H) : Apart u v' := by
  intro g hg
  rcases hat with e | e
  · rw [e]; exact h g hg
  · rw [e]
    intro e2
    have := hu g hg
    cases e2
    omega

theorem apart_types {w : World} {u v : Value} {b1 b2 : Nat} {e1 e2 : TypeId} {s1 s2 n1 n2 : Nat} {y1 y2 : List Value} (hne : e1 ≠ e2) (h1 : w.ownsRow b1 e1 s1 u n1 y1) (h2 : w.ownsRow b2 e2 s2 v n2 y2) : Apart u v := by
  intro g hu hv
  rcases h1.2 with ⟨e, _⟩ | ⟨g1, c1, cur1, e, _, k1, _⟩
  · rw [e] at hu; simp [Value.ownBlock] at hu
  rcases h2.2 with ⟨e', _⟩ | ⟨g2, c2, cur2, e', _, k2, _⟩
  · rw [e'] at hv; simp [Value.ownBlock] at hv
  rw [e] at hu
  rw [e'] at hv
  simp [Value.ownBlock] at hu hv
  subst hu hv
  rw [k1] at k2
  simp at k2
  exact hne k2.2

theorem apart_nil (v : Value) : Apart (.slice none 0 0) v := by
  intro g h
  simp [Value.ownBlock] at h

/-! ### the words that are options -/
theorem pre1_iff (x : ByteArray) : pre1 x = true ↔ ∃ h : 0 < x.size, x[0].toNat = 45 := by
  obtain ⟨⟨l⟩⟩ := x
  unfold pre1 Lib.hasPrefix
  match l with
  | [] => exact ⟨fun h => by simp [List.isPrefixOf] at h, fun ⟨h, _⟩ => absurd h (Nat.not_lt_zero _)⟩
  | c :: r =>
    constructor
    · intro h
      refine ⟨Nat.succ_pos _, ?_⟩
      have : (45 : UInt8) = c := by simpa [List.isPrefixOf] using h
      show c.toNat = 45
      rw [← this]; rfl
    · rintro ⟨_, h⟩
      have hc : c.toNat = 45 := h
      have : c = 45 := UInt8.toNat_inj.1 hc
      simp [List.isPrefixOf, this]

theorem pre2_iff (x : ByteArray) : pre2 x = true ↔ ∃ h : 1 < x.size, x[0].toNat = 45 ∧ x[1].toNat = 45 := by
  obtain ⟨⟨l⟩⟩ := x
  unfold pre2 Lib.hasPrefix
  match l with
  | [] => exact ⟨fun h => by simp [List.isPrefixOf] at h, fun ⟨h, _⟩ => absurd h (Nat.not_lt_zero _)⟩
  | [c] => exact ⟨fun h => by simp [List.isPrefixOf] at h, fun ⟨h, _⟩ => absurd h (Nat.lt_irrefl 1)⟩
  | c :: d :: r =>
    constructor
    · intro h
      refine ⟨Nat.succ_lt_succ (Nat.succ_pos _), ?_⟩
      have h2 : (45 : UInt8) = c ∧ (45 : UInt8) = d := by simpa [List.isPrefixOf] using h
      show c.toNat = 45 ∧ d.toNat = 45
      rw [← h2.1, ← h2.2]; exact ⟨rfl, rfl⟩
    · rintro ⟨_, h1, h2⟩
      have hc : c.toNat = 45 := h1
      have hd : d.toNat = 45 := h2
      have e1 : c = 45 := UInt8.toNat_inj.1 hc
      have e2 : d = 45 := UInt8.toNat_inj.1 hd
      simp [List.isPrefixOf, e1, e2]

theorem step_long (a : Args) (x : ByteArray) (h : pre2 x = true) : argStep a x = ⟨a.flags, a.long ++ [x], a.ops⟩ := by unfold argStep; rw [if_pos h]
theorem step_flag (a : Args) (x : ByteArray) (h : pre2 x = false) (h1 : pre1 x = true) : argStep a x = ⟨a.flags ++ x.extract 1 x.size, a.long, a.ops⟩ := by unfold argStep; rw [if_neg (by rw [h]; simp), if_pos h1]
theorem step_op (a : Args) (x : ByteArray) (h : pre2 x = false) (h1 : pre1 x = false) : argStep a x = ⟨a.flags, a.long, a.ops ++ [x]⟩ := by unfold argStep; rw [if_neg (by rw [h]; simp), if_neg (by rw [h1]; simp)]

theorem argFold_take (xs : List ByteArray) (k : Nat) (hk : k < xs.length) : argFold (xs.take (k + 1)) = argStep (argFold (xs.take k)) xs[k] := by
  rw [List.take_succ_eq_append_getElem hk, argFold_snoc]

/-- how much the arguments take -/
theorem argFold_small (xs : List ByteArray) : (argFold xs).flags.size + (argFold xs).long.length + (argFold xs).ops.length ≤ total (xs.map (·.data.toList)) := by
  suffices h : ∀ (ys : List ByteArray) (a : Args), (ys.foldl argStep a).flags.size + (ys.foldl argStep a).long.length + (ys.foldl argStep a).ops.length ≤ a.flags.size + a.long.length + a.ops.length + total (ys.map (·.data.toList)) by
    have := h xs Args.none
    simpa [argFold, Args.none] using this
  intro ys
  induction ys with
  | nil => intro a; simp
  | cons y r ih =>
    intro a
    have h := ih (argStep a y)
    have hs : (argStep a y).flags.size + (argStep a y).long.length + (argStep a y).ops.length ≤ a.flags.size + a.long.length + a.ops.length + (y.data.toList.length + 1) := by
      rw [data_len]
      unfold argStep
      split
      · simp; omega
      · split
        · simp only [ByteArray.size_append, ByteArray.size_extract]; omega
        · simp; omega
    simp only [List.foldl_cons, List.map_cons, total_cons]
    omega

theorem argFold_take_small (xs : List ByteArray) (k : Nat) : (argFold (xs.take k)).flags.size + (argFold (xs.take k)).long.length + (argFold (xs.take k)).ops.length ≤ total (xs.map (·.data.toList)) := by
  have h := argFold_small (xs.take k)
  have h2 := total_take (xs.map (·.data.toList)) k
  rw [← List.map_take] at h2
  omega

theorem endAt_le (xs : List ByteArray) : endAt xs ≤ xs.length := List.findIdx_le_length
theorem endAt_before (xs : List ByteArray) (k : Nat) (hk : k < endAt xs) (h : k < xs.length) : isDD xs[k] = false := by
  have := List.not_of_lt_findIdx hk
  simpa using this
theorem endAt_at (xs : List ByteArray) (h : endAt xs < xs.length) : isDD xs[endAt xs] = true := List.findIdx_getElem (w := h)

theorem isDD_walk (x : ByteArray) : (x.toList == [45, 45]) = isDD x := by unfold isDD; rw [Lib.toList_data]

end Go.Proofs.Qxb6628254aDoor
