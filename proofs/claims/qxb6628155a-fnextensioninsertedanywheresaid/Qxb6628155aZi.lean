import Derived.Test.Qxb6628155aCarried
import Derived.Maps.AppendAt
namespace Go.Proofs.Qxb6628155a
open Go.RowKit Go.Deep

theorem zi_any (ao : Option Addr) (len cap : Nat) (kk : Int) (s l : ByteArray) (hs : s.size ≤ maxLen) (hl0 : l.size ≤ maxLen) (Sp Lo : Nat → ByteArray) (w : World) (hN : IsNames w ao len Sp Lo) :
    Calls Try.prog 5 #[.slice ao len cap, .int .i64 kk, .string s, .string l] w fun e w' => Ans (len ≤ 1048576) e ∧ w' = w := by
  obtain ⟨hl, hN⟩ := hN
  unfold maxLen at hl hs hl0
  by_cases hpos : 0 < len
  · obtain ⟨b, off, rfl, hc⟩ := hN hpos
    clear hN
    go_enter Try.func5, Try.ntmps5
    go_wp2
    · go_ret
      exact ⟨ans_no _, rfl⟩
    go_loop [9, 10] (fun n i => ∃ (k : Nat) (t : Int), k ≤ len ∧ 0 ≤ t ∧ t ≤ 1048576 ∧ i = .int .i64 k ∧ n = .int .i64 t) (fun _ i => len - (intOf i).toNat)
    case atStart => exact ⟨0, len, Nat.zero_le _, by omega, by omega, rfl, rfl⟩
    case round =>
      obtain ⟨k, t, hk, ht0, ht1, rfl, rfl⟩ := hrel
      by_cases hlt : k < len
      · obtain ⟨c0, c1, s0, s1⟩ := hc k hlt
        unfold maxLen at s0 s1
        go_wp2
        all_goals first
          | (go_ret; exact ⟨ans_no _, rfl⟩)
          | skip
        go_round
        case rel => exact ⟨k + 1, _, by omega, by omega, by omega, by go_num, rfl⟩
        case measure => simp [intOf]; omega
      · go_wp2
        all_goals go_ret
        all_goals first
          | exact ⟨ans_no _, rfl⟩
          | exact ⟨ans_yes (by omega), rfl⟩
  · go_enter Try.func5, Try.ntmps5
    go_wp2
    go_loop [9, 10] (fun n i => i = .int .i64 0 ∧ n = .int .i64 len) (fun _ i => 0)
    case atStart => exact ⟨rfl, rfl⟩
    case round =>
      obtain ⟨rfl, rfl⟩ := hrel
      go_wp2
      all_goals go_ret
      all_goals first
        | exact ⟨ans_no _, rfl⟩
        | exact ⟨ans_yes (by omega), rfl⟩

end Go.Proofs.Qxb6628155a
