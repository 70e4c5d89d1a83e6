import Derived.Test.Qxb6628254aDoorLeaf
namespace Go.Proofs.Qxb6628254aDoor
open Go.RowKit

/-! ### the two size tests -/
def Ok (xs : List ByteArray) : Prop := xs.length ≤ 1048576 ∧ ∀ x ∈ xs, x.size ≤ 1048576
/-- some bool; and where it is true, p holds -/
def Ans (p : Prop) (e : Ending) : Prop := ∃ r : Bool, e = .returned (.bool r) ∧ (r = true → p)
theorem ans_no (p : Prop) : Ans p (.returned (.bool false)) := ⟨false, rfl, by simp⟩
theorem ans_yes {p : Prop} (h : p) : Ans p (.returned (.bool true)) := ⟨true, rfl, fun _ => h⟩
theorem ans_any (b : Bool) : Ans True (.returned (.bool b)) := ⟨b, rfl, fun _ => trivial⟩

theorem mem_at {xs : List ByteArray} {p : ByteArray → Prop} (h : ∀ x ∈ xs, p x) {k : Nat} (hk : k < xs.length) : p xs[k] := h _ (List.getElem_mem _)

theorem upto_succ {xs : List ByteArray} {k : Nat} (h : ∀ j (hj : j < xs.length), j < k → xs[j].size ≤ 1048576) (hk : k < xs.length) (hx : xs[k].size ≤ 1048576) : ∀ j (hj : j < xs.length), j < k + 1 → xs[j].size ≤ 1048576 := by
  intro j hj hjk
  by_cases e : j = k
  · subst e; exact hx
  · exact h j hj (by omega)

theorem upto_all {xs : List ByteArray} (h : ∀ j (hj : j < xs.length), j < xs.length → xs[j].size ≤ 1048576) : ∀ x ∈ xs, x.size ≤ 1048576 := by
  intro x hx
  obtain ⟨j, hj, rfl⟩ := List.mem_iff_getElem.1 hx
  exact h j hj hj


set_option maxHeartbeats 400000 in
theorem zb_any (xs ys : List ByteArray) (va vb : Value) (w : World) (hmx : ∀ x ∈ xs, x.size ≤ maxLen) (hmy : ∀ x ∈ ys, x.size ≤ maxLen) (ha : Sl w va xs) (hb : Sl w vb ys) :
    Calls Tryd.prog 15 #[va, vb] w fun e w' => Ans (Ok xs ∧ Ok ys) e ∧ w' = w := by
  obtain ⟨ao, ca, rfl, hca, hma, hxa⟩ := ha
  obtain ⟨bo, cb, rfl, hcb, hmb, hxb⟩ := hb
  unfold maxLen at hma hmb
  have HM : Hid ((∀ x ∈ xs, x.size ≤ maxLen) ∧ (∀ x ∈ ys, x.size ≤ maxLen)) := ⟨hmx, hmy⟩
  clear hmx hmy
  go_enter Tryd.func15, Tryd.ntmps15
  by_cases hbig : 1048576 < (xs.length : Int)
  · go_wp2_with fail
    go_ret
    exact ⟨ans_no _, rfl⟩
  go_wp2_with fail
  go_loop [5, 6] (fun n i => ∃ (k : Nat) (t : Int), k ≤ xs.length ∧ 0 ≤ t ∧ t ≤ 1048576 ∧ i = .int .i64 k ∧ n = .int .i64 t ∧ ∀ j (hj : j < xs.length), j < k → xs[j].size ≤ 1048576) (fun _ i => xs.length - (intOf i).toNat)
  case atStart => exact ⟨0, xs.length, Nat.zero_le _, by omega, by omega, rfl, rfl, fun j hj h => absurd h (by omega)⟩
  case round =>
    obtain ⟨k, t, hk, ht0, ht1, rfl, rfl, hu⟩ := hrel
    have HU : Hid (∀ j (hj : j < xs.length), j < k → xs[j].size ≤ 1048576) := hu
    clear hu
    by_cases hlt : k < xs.length
    · obtain ⟨b1, o1, rfl, c1⟩ := Sl.at hxa hlt
      have hm1 := mem_at HM.out.1 hlt
      unfold maxLen at hm1
      obtain ⟨x, hx⟩ : ∃ x, xs[k] = x := ⟨_, rfl⟩
      rw [hx] at c1 hm1
      have HX : Hid (xs[k] = x) := hx
      clear hx
      by_cases g1 : 1048576 < (x.size : Int)
      · go_wp2_with fail
        go_ret
        exact ⟨ans_no _, rfl⟩
      by_cases g2 : 1048576 < t + (x.size : Int)
      · go_wp2_with fail
        go_ret
        exact ⟨ans_no _, rfl⟩
      go_wp2_with fail
      go_round
      case rel => exact ⟨k + 1, _, by omega, by omega, by omega, by go_num, rfl, upto_succ HU.out hlt (by rw [HX.out]; omega)⟩
      case measure => simp [intOf]; omega
    · obtain rfl : k = xs.length := by omega
      clear hxa
      by_cases g1 : 1048576 < (ys.length : Int)
      · go_wp2_with fail
        go_ret
        exact ⟨ans_no _, rfl⟩
      by_cases g2 : 1048576 < t + (ys.length : Int)
      · go_wp2_with fail
        go_ret
        exact ⟨ans_no _, rfl⟩
      go_wp2_with fail
      go_loop [5, 7] (fun n i => ∃ (k : Nat) (t : Int), k ≤ ys.length ∧ 0 ≤ t ∧ t ≤ 1048576 ∧ i = .int .i64 k ∧ n = .int .i64 t ∧ ∀ j (hj : j < ys.length), j < k → ys[j].size ≤ 1048576) (fun _ i => ys.length - (intOf i).toNat)
      case atStart => exact ⟨0, _, Nat.zero_le _, by omega, by omega, rfl, rfl, fun j hj h => absurd h (by omega)⟩
      case round =>
        clear ht0 ht1 g2
        obtain ⟨k, t2, hk, ht0, ht1, rfl, rfl, hu⟩ := hrel
        have HV : Hid (∀ j (hj : j < ys.length), j < k → ys[j].size ≤ 1048576) := hu
        clear hu
        by_cases hlt : k < ys.length
        · obtain ⟨b1, o1, rfl, c1⟩ := Sl.at hxb hlt
          have hm1 := mem_at HM.out.2 hlt
          unfold maxLen at hm1
          obtain ⟨x, hx⟩ : ∃ x, ys[k] = x := ⟨_, rfl⟩
          rw [hx] at c1 hm1
          have HX : Hid (ys[k] = x) := hx
          clear hx
          by_cases g1 : 1048576 < (x.size : Int)
          · go_wp2_with fail
            go_ret
            exact ⟨ans_no _, rfl⟩
          by_cases g2 : 1048576 < t2 + (x.size : Int)
          · go_wp2_with fail
            go_ret
            exact ⟨ans_no _, rfl⟩
          go_wp2_with fail
          go_round
          case rel => exact ⟨k + 1, _, by omega, by omega, by omega, by go_num, rfl, upto_succ HV.out hlt (by rw [HX.out]; omega)⟩
          case measure => simp [intOf]; omega
        · obtain rfl : k = ys.length := by omega
          go_wp2_with fail
          go_ret
          exact ⟨ans_yes ⟨⟨by omega, upto_all HU.out⟩, ⟨by omega, upto_all HV.out⟩⟩, rfl⟩

set_option maxHeartbeats 400000 in
theorem zbk_any (xs ys : List ByteArray) (va vb : Value) (kk : Int) (w : World) (hmx : ∀ x ∈ xs, x.size ≤ maxLen) (hmy : ∀ x ∈ ys, x.size ≤ maxLen) (ha : Sl w va xs) (hb : Sl w vb ys) :
    Calls Tryd.prog 5 #[va, vb, .int .i64 kk] w fun e w' => Ans (Ok xs ∧ Ok ys) e ∧ w' = w := by
  obtain ⟨ao, ca, rfl, hca, hma, hxa⟩ := ha
  obtain ⟨bo, cb, rfl, hcb, hmb, hxb⟩ := hb
  unfold maxLen at hma hmb
  have HM : Hid ((∀ x ∈ xs, x.size ≤ maxLen) ∧ (∀ x ∈ ys, x.size ≤ maxLen)) := ⟨hmx, hmy⟩
  clear hmx hmy
  go_enter Tryd.func5, Tryd.ntmps5
  by_cases hbig : 1048576 < (xs.length : Int)
  · go_wp2_with fail
    go_ret
    exact ⟨ans_no _, rfl⟩
  go_wp2_with fail
  go_loop [7, 8] (fun n i => ∃ (k : Nat) (t : Int), k ≤ xs.length ∧ 0 ≤ t ∧ t ≤ 1048576 ∧ i = .int .i64 k ∧ n = .int .i64 t ∧ ∀ j (hj : j < xs.length), j < k → xs[j].size ≤ 1048576) (fun _ i => xs.length - (intOf i).toNat)
  case atStart => exact ⟨0, xs.length, Nat.zero_le _, by omega, by omega, rfl, rfl, fun j hj h => absurd h (by omega)⟩
  case round =>
    obtain ⟨k, t, hk, ht0, ht1, rfl, rfl, hu⟩ := hrel
    have HU : Hid (∀ j (hj : j < xs.length), j < k → xs[j].size ≤ 1048576) := hu
    clear hu
    by_cases hlt : k < xs.length
    · obtain ⟨b1, o1, rfl, c1⟩ := Sl.at hxa hlt
      have hm1 := mem_at HM.out.1 hlt
      unfold maxLen at hm1
      obtain ⟨x, hx⟩ : ∃ x, xs[k] = x := ⟨_, rfl⟩
      rw [hx] at c1 hm1
      have HX : Hid (xs[k] = x) := hx
      clear hx
      by_cases g1 : 1048576 < (x.size : Int)
      · go_wp2_with fail
        go_ret
        exact ⟨ans_no _, rfl⟩
      by_cases g2 : 1048576 < t + (x.size : Int)
      · go_wp2_with fail
        go_ret
        exact ⟨ans_no _, rfl⟩
      go_wp2_with fail
      go_round
      case rel => exact ⟨k + 1, _, by omega, by omega, by omega, by go_num, rfl, upto_succ HU.out hlt (by rw [HX.out]; omega)⟩
      case measure => simp [intOf]; omega
    · obtain rfl : k = xs.length := by omega
      clear hxa
      by_cases g1 : 1048576 < (ys.length : Int)
      · go_wp2_with fail
        go_ret
        exact ⟨ans_no _, rfl⟩
      by_cases g2 : 1048576 < t + (ys.length : Int)
      · go_wp2_with fail
        go_ret
        exact ⟨ans_no _, rfl⟩
      go_wp2_with fail
      go_loop [7, 9] (fun n i => ∃ (k : Nat) (t : Int), k ≤ ys.length ∧ 0 ≤ t ∧ t ≤ 1048576 ∧ i = .int .i64 k ∧ n = .int .i64 t ∧ ∀ j (hj : j < ys.length), j < k → ys[j].size ≤ 1048576) (fun _ i => ys.length - (intOf i).toNat)
      case atStart => exact ⟨0, _, Nat.zero_le _, by omega, by omega, rfl, rfl, fun j hj h => absurd h (by omega)⟩
      case round =>
        clear ht0 ht1 g2
        obtain ⟨k, t2, hk, ht0, ht1, rfl, rfl, hu⟩ := hrel
        have HV : Hid (∀ j (hj : j < ys.length), j < k → ys[j].size ≤ 1048576) := hu
        clear hu
        by_cases hlt : k < ys.length
        · obtain ⟨b1, o1, rfl, c1⟩ := Sl.at hxb hlt
          have hm1 := mem_at HM.out.2 hlt
          unfold maxLen at hm1
          obtain ⟨x, hx⟩ : ∃ x, ys[k] = x := ⟨_, rfl⟩
          rw [hx] at c1 hm1
          have HX : Hid (ys[k] = x) := hx
          clear hx
          by_cases g1 : 1048576 < (x.size : Int)
          · go_wp2_with fail
            go_ret
            exact ⟨ans_no _, rfl⟩
          by_cases g2 : 1048576 < t2 + (x.size : Int)
          · go_wp2_with fail
            go_ret
            exact ⟨ans_no _, rfl⟩
          go_wp2_with fail
          go_round
          case rel => exact ⟨k + 1, _, by omega, by omega, by omega, by go_num, rfl, upto_succ HV.out hlt (by rw [HX.out]; omega)⟩
          case measure => simp [intOf]; omega
        · obtain rfl : k = ys.length := by omega
          go_wp2_with fail
          go_ret
          exact ⟨ans_yes ⟨⟨by omega, upto_all HU.out⟩, ⟨by omega, upto_all HV.out⟩⟩, rfl⟩

set_option maxHeartbeats 400000 in
theorem too_any (xs ys : List ByteArray) (va vb : Value) (w : World) (ox : Ok xs) (oy : Ok ys) (ha : Sl w va xs) (hb : Sl w vb ys) :
    Calls Tryd.prog 6 #[va, vb] w fun e w' => Ans True e ∧ w' = w := by
  obtain ⟨ao, ca, rfl, hca, hma, hxa⟩ := ha
  obtain ⟨bo, cb, rfl, hcb, hmb, hxb⟩ := hb
  obtain ⟨lx, ox⟩ := ox
  obtain ⟨ly, oy⟩ := oy
  have HM : Hid ((∀ x ∈ xs, x.size ≤ 1048576) ∧ (∀ x ∈ ys, x.size ≤ 1048576)) := ⟨ox, oy⟩
  clear ox oy
  go_enter Tryd.func6, Tryd.ntmps6
  go_wp2_with fail
  go_loop [5, 6] (fun n i => ∃ (k : Nat) (t : Int), k ≤ xs.length ∧ 0 ≤ t ∧ t ≤ 1048576 ∧ i = .int .i64 k ∧ n = .int .i64 t) (fun _ i => xs.length - (intOf i).toNat)
  case atStart => exact ⟨0, 0, Nat.zero_le _, by omega, by omega, rfl, rfl⟩
  case round =>
    obtain ⟨k, t, hk, ht0, ht1, rfl, rfl⟩ := hrel
    by_cases hlt : k < xs.length
    · obtain ⟨b1, o1, rfl, c1⟩ := Sl.at hxa hlt
      have hm1 := mem_at HM.out.1 hlt
      obtain ⟨x, hx⟩ : ∃ x, xs[k] = x := ⟨_, rfl⟩
      rw [hx] at c1 hm1
      clear hx
      by_cases g2 : 1048576 < t + (8 + (x.size : Int))
      · go_wp2_with fail
        go_ret
        exact ⟨ans_any _, rfl⟩
      go_wp2_with fail
      go_round
      case rel => exact ⟨k + 1, _, by omega, by omega, by omega, by go_num, rfl⟩
      case measure => simp [intOf]; omega
    · obtain rfl : k = xs.length := by omega
      clear hxa
      go_wp2_with fail
      go_loop [5, 7] (fun n i => ∃ (k : Nat) (t : Int), k ≤ ys.length ∧ 0 ≤ t ∧ t ≤ 1048576 ∧ i = .int .i64 k ∧ n = .int .i64 t) (fun _ i => ys.length - (intOf i).toNat)
      case atStart => exact ⟨0, _, Nat.zero_le _, by omega, by omega, rfl, rfl⟩
      case round =>
        clear ht0 ht1
        obtain ⟨k, t2, hk, ht0, ht1, rfl, rfl⟩ := hrel
        by_cases hlt : k < ys.length
        · obtain ⟨b1, o1, rfl, c1⟩ := Sl.at hxb hlt
          have hm1 := mem_at HM.out.2 hlt
          obtain ⟨x, hx⟩ : ∃ x, ys[k] = x := ⟨_, rfl⟩
          rw [hx] at c1 hm1
          clear hx
          by_cases g2 : 1048576 < t2 + (8 + (x.size : Int))
          · go_wp2_with fail
            go_ret
            exact ⟨ans_any _, rfl⟩
          go_wp2_with fail
          go_round
          case rel => exact ⟨k + 1, _, by omega, by omega, by omega, by go_num, rfl⟩
          case measure => simp [intOf]; omega
        · go_wp2_with fail
          go_ret
          exact ⟨ans_any _, rfl⟩

end Go.Proofs.Qxb6628254aDoor
