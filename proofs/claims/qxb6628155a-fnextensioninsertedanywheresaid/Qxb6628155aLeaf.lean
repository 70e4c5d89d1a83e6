import Derived.Test.Qxb6628155aProg
import Derived.WalkKit
import Derived.WalkSpells
import Derived.Outline
import Derived.LaidEqlPtr
namespace Go.Proofs.Qxb6628155a
open Go.RowKit

/-- what Go's literal lays -/
def elemCells (s l : ByteArray) : Array Value := #[.string s, .string l, .slice none 0 0, .slice none 0 0, .string ByteArray.empty]

theorem new_any (s l : ByteArray) (w : World) :
    Calls Try.prog 8 #[.string s, .string l] w fun e w' => e = .returned (.pointer (some ⟨w.heap.size, 0, none⟩)) ∧ w' = w.alloc (.cells (elemCells s l) 42) := by
  go_enter Try.func8, Try.ntmps8
  go_wp2
  go_ret
  exact ⟨rfl, rfl⟩

/-- the slice of names as it came in: nil, or a row of pairs of strings -/
def IsNames (w : World) (ao : Option Addr) (len : Nat) (Sp Lo : Nat → ByteArray) : Prop :=
  len ≤ maxLen ∧ (0 < len → ∃ b off, ao = some ⟨b, off, none⟩ ∧ ∀ i, i < len → w.cell? ⟨b, off + i * 2, none⟩ = some (.string (Sp i)) ∧ w.cell? ⟨b, off + i * 2 + 1, none⟩ = some (.string (Lo i)) ∧ (Sp i).size ≤ maxLen ∧ (Lo i).size ≤ maxLen)

/-- some bool; and where it is true, p holds -/
def Ans (p : Prop) (e : Ending) : Prop := ∃ r : Bool, e = .returned (.bool r) ∧ (r = true → p)
theorem ans_no (p : Prop) : Ans p (.returned (.bool false)) := ⟨false, rfl, by simp⟩
theorem ans_yes {p : Prop} (h : p) : Ans p (.returned (.bool true)) := ⟨true, rfl, fun _ => h⟩

theorem zb_any (ao : Option Addr) (len cap : Nat) (Sp Lo : Nat → ByteArray) (w : World) (hN : IsNames w ao len Sp Lo) :
    Calls Try.prog 11 #[.slice ao len cap] w fun e w' => Ans (len ≤ 1048576) e ∧ w' = w := by
  obtain ⟨hl, hN⟩ := hN
  unfold maxLen at hl
  by_cases hpos : 0 < len
  · obtain ⟨b, off, rfl, hc⟩ := hN hpos
    clear hN
    go_enter Try.func11, Try.ntmps11
    go_wp2
    · go_ret
      exact ⟨ans_no _, rfl⟩
    go_loop [3, 4] (fun n i => ∃ (k : Nat) (t : Int), k ≤ len ∧ 0 ≤ t ∧ t ≤ 1048576 ∧ i = .int .i64 k ∧ n = .int .i64 t) (fun _ i => len - (intOf i).toNat)
    case atStart => exact ⟨0, len, Nat.zero_le _, by omega, by omega, rfl, rfl⟩
    case round =>
      obtain ⟨k, t, hk, ht0, ht1, rfl, rfl⟩ := hrel
      by_cases hlt : k < len
      · obtain ⟨c0, c1, s0, s1⟩ := hc k hlt
        unfold maxLen at s0 s1
        go_wp2
        all_goals first
          | (go_ret; exact ⟨ans_no _, rfl⟩)
          | skip
        go_round
        case rel => exact ⟨k + 1, _, by omega, by omega, by omega, by go_num, rfl⟩
        case measure => simp [intOf]; omega
      · go_wp2
        go_ret
        exact ⟨ans_yes (by omega), rfl⟩
  · obtain rfl : len = 0 := by omega
    go_enter Try.func11, Try.ntmps11
    go_wp2
    go_loop [3, 4] (fun n i => i = .int .i64 0) (fun _ i => 0)
    case atStart => rfl
    case round =>
      subst hrel
      go_wp2
      go_ret
      exact ⟨ans_yes (by omega), rfl⟩

theorem ok_any (ao : Option Addr) (len cap : Nat) (Sp Lo : Nat → ByteArray) (x : Int) (hx0 : 0 ≤ x) (hx1 : x ≤ 1048576) (w : World) (hN : IsNames w ao len Sp Lo) :
    Calls Try.prog 6 #[.slice ao len cap, .int .i64 x] w fun e w' => Ans True e ∧ w' = w := by
  obtain ⟨hl, hN⟩ := hN
  unfold maxLen at hl
  by_cases hpos : 0 < len
  · obtain ⟨b, off, rfl, hc⟩ := hN hpos
    clear hN
    go_enter Try.func6, Try.ntmps6
    go_wp2
    go_loop [5, 6] (fun n i => ∃ (k : Nat) (t : Int), k ≤ len ∧ 0 ≤ t ∧ t ≤ 1048576 ∧ i = .int .i64 k ∧ n = .int .i64 t) (fun _ i => len - (intOf i).toNat)
    case atStart => exact ⟨0, x, Nat.zero_le _, by omega, by omega, rfl, rfl⟩
    case round =>
      obtain ⟨k, t, hk, ht0, ht1, rfl, rfl⟩ := hrel
      by_cases hlt : k < len
      · obtain ⟨c0, c1, s0, s1⟩ := hc k hlt
        unfold maxLen at s0 s1
        go_wp2
        all_goals first
          | (go_ret; exact ⟨ans_no _, rfl⟩)
          | skip
        go_round
        case rel => exact ⟨k + 1, _, by omega, by omega, by omega, by go_num, rfl⟩
        case measure => simp [intOf]; omega
      · go_wp2
        go_ret
        exact ⟨ans_yes trivial, rfl⟩
  · obtain rfl : len = 0 := by omega
    go_enter Try.func6, Try.ntmps6
    go_wp2
    go_loop [5, 6] (fun n i => i = .int .i64 0) (fun _ i => 0)
    case atStart => rfl
    case round =>
      subst hrel
      go_wp2
      go_ret
      exact ⟨ans_yes trivial, rfl⟩

/-- a slice of pointers to elements: the i-th leads to block E i, whose name is (S i, L i) -/
def IsList (w : World) (la : Option Addr) (n : Nat) (E : Nat → Nat) (S L : Nat → ByteArray) : Prop :=
  0 < n → ∃ b off, la = some ⟨b, off, none⟩ ∧ ∀ i, i < n → w.cell? ⟨b, off + i, none⟩ = some (.pointer (some ⟨E i, 0, none⟩)) ∧ w.heap[E i]? = some (.cells (elemCells (S i) (L i)) 42)

theorem elem_cells {w : World} {e : Nat} {s l : ByteArray} (h : w.heap[e]? = some (.cells (elemCells s l) 42)) : w.cell? ⟨e, 0, none⟩ = some (.string s) ∧ w.cell? ⟨e, 1, none⟩ = some (.string l) := by
  constructor <;> simp [World.cell?, h, elemCells]

/-- the names are the same, byte for byte -/
def Same (S L : Nat → ByteArray) (s l : ByteArray) (i : Nat) : Prop := (S i).toList = s.toList ∧ (L i).toList = l.toList

theorem Try.info42 : (Try.prog.info? 42).map (fun i => i.size) = some 5 := by kernel_rfl

theorem ptr_same (w : World) (a : Addr) : (binOp .eql 27 (.pointer (some a)) (.pointer (some a))).run Try.prog w = .ok (.bool true) w := by
  obtain ⟨j, hj, _⟩ := Option.map_eq_some_iff.1 Try.info42
  exact run_eql_ptr_same w a Try.underlying27 hj

theorem ptr_neq_same (w : World) (a : Addr) : (binOp .neq 27 (.pointer (some a)) (.pointer (some a))).run Try.prog w = .ok (.bool false) w := by
  obtain ⟨j, hj, _⟩ := Option.map_eq_some_iff.1 Try.info42
  have h : ∀ d : Nat, (Op.equalIn (d + 1) 27 (.pointer (some a)) (.pointer (some a))).run Try.prog w = .ok true w := fun d => by
    simp [Op.equalIn, run_underlying Try.underlying27, sizeOf, typeInfo, hj, run_sameAddr_same]
  simp only [binOp]
  simp [Op.equal, Op.maxDepth, h 9999]

theorem ptr_other (w : World) {a b : Nat} (hne : a ≠ b) {ca cb : Array Value} (ha : w.heap[a]? = some (.cells ca 42)) (hb : w.heap[b]? = some (.cells cb 42)) :
    (binOp .eql 27 (.pointer (some ⟨a, 0, none⟩)) (.pointer (some ⟨b, 0, none⟩))).run Try.prog w = .ok (.bool false) w := by
  obtain ⟨j, hj, hs⟩ := Option.map_eq_some_iff.1 Try.info42
  exact run_eql_ptr_other w (a := ⟨a, 0, none⟩) (b := ⟨b, 0, none⟩) Try.underlying27 hj (by omega) (fun h => hne (congrArg Addr.block h)) ha hb

theorem ext_hit (cb : Nat) (la : Option Addr) (n cp : Nat) (E : Nat → Nat) (S L : Nat → ByteArray) (s l : ByteArray) (w : World) (hn : n ≤ 9223372036854775807)
    (hc : w.cell? ⟨cb, 5, none⟩ = some (.slice la n cp)) (hL : IsList w la n E S L) (i : Nat) (hi : i < n) (hm : Same S L s l i) (hno : ∀ j, j < i → ¬ Same S L s l j) :
    Calls Try.prog 9 #[.pointer (some ⟨cb, 0, none⟩), .string s, .string l] w fun e w' => e = .returned (.pointer (some ⟨E i, 0, none⟩)) ∧ w' = w := by
  obtain ⟨b, off, rfl, hcell⟩ := hL (by omega)
  clear hL
  go_enter Try.func9, Try.ntmps9
  go_wp2
  go_loop [14] (fun t => ∃ k : Nat, k ≤ i ∧ t = .int .i64 k) (fun t => n - (intOf t).toNat)
  case atStart => exact ⟨0, Nat.zero_le _, rfl⟩
  case round =>
    obtain ⟨k, hk, rfl⟩ := hrel
    obtain ⟨c0, hb⟩ := hcell k (by omega)
    obtain ⟨c1, c2⟩ := elem_cells hb
    clear hb
    have hlt : k < n := by omega
    by_cases hki : k = i
    · subst hki
      have e1 : ((S k).toList == s.toList) = true := by simpa using hm.1
      have e2 : ((L k).toList == l.toList) = true := by simpa using hm.2
      go_wp2
      go_ret
      exact ⟨rfl, rfl⟩
    · have hne := hno k (by omega)
      by_cases hs : (S k).toList = s.toList
      · have e1 : ((S k).toList == s.toList) = true := by simpa using hs
        have e2 : ((L k).toList == l.toList) = false := by simpa using fun h => hne ⟨hs, h⟩
        clear hs
        go_wp2
        go_round
        case rel => exact ⟨k + 1, by omega, by go_num⟩
        case measure => simp [intOf]; omega
      · have e1 : ((S k).toList == s.toList) = false := by simpa using hs
        clear hs
        go_wp2
        go_round
        case rel => exact ⟨k + 1, by omega, by go_num⟩
        case measure => simp [intOf]; omega

theorem ext_miss (cb : Nat) (la : Option Addr) (n cp : Nat) (E : Nat → Nat) (S L : Nat → ByteArray) (s l : ByteArray) (w : World) (hn : n ≤ 9223372036854775807)
    (hc : w.cell? ⟨cb, 5, none⟩ = some (.slice la n cp)) (hL : IsList w la n E S L) (hno : ∀ j, j < n → ¬ Same S L s l j) :
    Calls Try.prog 9 #[.pointer (some ⟨cb, 0, none⟩), .string s, .string l] w fun e w' => e = .returned (.pointer none) ∧ w' = w := by
  by_cases hpos : 0 < n
  · obtain ⟨b, off, rfl, hcell⟩ := hL (by omega)
    clear hL
    go_enter Try.func9, Try.ntmps9
    go_wp2
    go_loop [14] (fun t => ∃ k : Nat, k ≤ n ∧ t = .int .i64 k) (fun t => n - (intOf t).toNat)
    case atStart => exact ⟨0, Nat.zero_le _, rfl⟩
    case round =>
      obtain ⟨k, hk, rfl⟩ := hrel
      by_cases hlt : k < n
      · obtain ⟨c0, hb⟩ := hcell k (by omega)
        obtain ⟨c1, c2⟩ := elem_cells hb
        clear hb
        have hne := hno k (by omega)
        by_cases hs : (S k).toList = s.toList
        · have e1 : ((S k).toList == s.toList) = true := by simpa using hs
          have e2 : ((L k).toList == l.toList) = false := by simpa using fun h => hne ⟨hs, h⟩
          clear hs
          go_wp2
          go_round
          case rel => exact ⟨k + 1, by omega, by go_num⟩
          case measure => simp [intOf]; omega
        · have e1 : ((S k).toList == s.toList) = false := by simpa using hs
          clear hs
          go_wp2
          go_round
          case rel => exact ⟨k + 1, by omega, by go_num⟩
          case measure => simp [intOf]; omega
      · go_wp2
        go_ret
        exact ⟨rfl, rfl⟩
  · obtain rfl : n = 0 := by omega
    go_enter Try.func9, Try.ntmps9
    go_wp2
    go_loop [14] (fun t => t = .int .i64 0) (fun t => 0)
    case atStart => rfl
    case round =>
      subst hrel
      go_wp2
      go_ret
      exact ⟨rfl, rfl⟩

/-- indexOf, where the j-th is the first that leads to block E j -/
theorem idx_any (b off n cp : Nat) (E : Nat → Nat) (S L : Nat → ByteArray) (w : World) (hn : n ≤ 9223372036854775807)
    (hL : IsList w (some ⟨b, off, none⟩) n E S L) (j : Nat) (hj : j < n) (hinj : ∀ i, i < j → E i ≠ E j) :
    Calls Try.prog 10 #[.pointer (some ⟨E j, 0, none⟩), .slice (some ⟨b, off, none⟩) n cp] w fun e w' => e = .returned (.int .i64 j) ∧ w' = w := by
  obtain ⟨b', off', he, hcell⟩ := hL (by omega)
  obtain ⟨rfl, rfl⟩ : b = b' ∧ off = off' := by simpa using he
  clear hL he
  obtain ⟨-, hbj⟩ := hcell j hj
  go_enter Try.func10, Try.ntmps10
  go_wp2
  go_loop [5] (fun t => ∃ k : Nat, k ≤ j ∧ t = .int .i64 k) (fun t => n - (intOf t).toNat)
  case atStart => exact ⟨0, Nat.zero_le _, rfl⟩
  case round =>
    obtain ⟨k, hk, rfl⟩ := hrel
    obtain ⟨c0, hb⟩ := hcell k (by omega)
    have hlt : k < n := by omega
    by_cases hki : k = j
    · subst hki
      have hp := ptr_same w ⟨E k, 0, none⟩
      go_wp2
      go_ret
      exact ⟨rfl, rfl⟩
    · have hp := ptr_other w (hinj k (by omega)) hb hbj
      go_wp2
      go_round
      case rel => exact ⟨k + 1, by omega, by go_num⟩
      case measure => simp [intOf]; omega

end Go.Proofs.Qxb6628155a
