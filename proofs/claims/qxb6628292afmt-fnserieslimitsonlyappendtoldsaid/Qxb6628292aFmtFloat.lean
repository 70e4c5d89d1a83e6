import Derived.Test.Qxb6628292aFmtNp
import Derived.Laws.Cover2
import Derived.Laws.Cover3
import Derived.Laws.FloatArith
namespace Go.Proofs.Qxb6628292aFmt
open Go.RowKit

theorem order_self (v : Nat) : FloatKind.f64.format.order v v = none ∨ FloatKind.f64.format.order v v = some .eq := by
  unfold Ieee.Format.order
  generalize FloatKind.f64.format.read v = d
  cases d with
  | number s m i => right; simp [Ieee.Datum.order]
  | infinity s => right; simp [Ieee.Datum.order]
  | nan s f => left; rfl

theorem read_zero : FloatKind.f64.format.read 0 = .number false 0 (-1074) := by kernel_rfl
theorem read_one : FloatKind.f64.format.read 4607182418800017408 = .number false 4503599627370496 (-52) := by kernel_rfl

theorem signed_zero {s : Bool} {m u : Nat} (h : Ieee.signed s m u = 0) : m = 0 := by
  unfold Ieee.signed at h
  have h2 : (m <<< u : Nat) = 0 := by
    cases s <;> simp at h <;> simpa using h
  rw [Nat.shiftLeft_eq] at h2
  rcases Nat.mul_eq_zero.1 h2 with h | h
  · exact h
  · exact absurd h (Nat.ne_of_gt (Nat.two_pow_pos u))

theorem zero_read {v : Nat} (h : FloatKind.f64.format.order v 0 = some .eq) : ∃ s i, FloatKind.f64.format.read v = .number s 0 i := by
  unfold Ieee.Format.order at h
  rw [read_zero] at h
  generalize FloatKind.f64.format.read v = d at h
  cases d with
  | number s m i =>
    simp only [Ieee.Datum.order, Option.some.injEq] at h
    have h1 := Std.LawfulEqCmp.eq_of_compare h
    have h0 : Ieee.signed false 0 (-1074 - min i (-1074)).toNat = 0 := by simp [Ieee.signed]
    rw [h0] at h1
    rw [signed_zero h1]
    exact ⟨s, i, rfl⟩
  | infinity s => cases s <;> simp [Ieee.Datum.order] at h
  | nan s f => simp [Ieee.Datum.order] at h

theorem one_over {v : Nat} (h : FloatKind.f64.format.order v 0 = some .eq) : ∃ r, floatBits .quo .f64 4607182418800017408 v = some r ∧ FloatKind.f64.format.order r r = some .eq := by
  obtain ⟨s, i, hr⟩ := zero_read h
  refine ⟨FloatKind.f64.format.write (.infinity (false ^^ s)), ?_, ?_⟩
  · simp [floatBits, Ieee.Format.div, hr, read_one, Ieee.Datum.quotient]
  · cases s
    · kernel_rfl
    · kernel_rfl
end Go.Proofs.Qxb6628292aFmt
