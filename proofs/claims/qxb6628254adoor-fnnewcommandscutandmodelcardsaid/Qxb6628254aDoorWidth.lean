import Derived.Test.Qxb6628254aDoorScan
import Derived.Test.Qxb6628254aDoorProg
import Derived.WalkKit
import Derived.WalkSpells
import Derived.Outline
namespace Go.Proofs.Qxb6628254aDoor
open Go.RowKit

theorem ret_int {k : IntKind} {a b : Int} (h : a = b) : Ending.returned (.int k a) = .returned (.int k b) := by rw [h]

theorem u8_of {c : UInt8} {n : Nat} (h : c.toNat = n) (k : UInt8) (hk : k.toNat = n) : c = k := UInt8.toNat_inj.1 (h.trans hk.symm)
theorem beq_no {c : UInt8} {n : Int} (h : ¬ (c.toNat : Int) = n) : ((c.toNat : Int) == n) = false := by simpa using h

theorem width_ascii (s : ByteArray) (i : Nat) (hi : i < s.size) (_hs : s.size ≤ 1048576) (w : World) (hc : s[i].toNat = 9 ∨ s[i].toNat = 10 ∨ s[i].toNat = 11 ∨ s[i].toNat = 12 ∨ s[i].toNat = 13 ∨ s[i].toNat = 32) :
    Calls Tryd.prog 26 #[.string s, .int .i64 i] w fun e w' => e = .returned (.int .i64 (swAt s i)) ∧ w' = w := by
  have H : Hid (swAt s i = 1) := by
    show swAt s i = 1
    unfold swAt
    rw [bang hi]
    unfold sw
    (repeat' split) <;> omega
  rcases hc with hc | hc | hc | hc | hc | hc
  · have hU := u8_of hc 9 rfl
    clear hc
    go_enter Tryd.func26, Tryd.ntmps26
    go_wp2
    go_ret
    exact ⟨ret_int (by rw [H.out]; rfl), rfl⟩
  · have hU := u8_of hc 10 rfl
    clear hc
    go_enter Tryd.func26, Tryd.ntmps26
    go_wp2
    go_ret
    exact ⟨ret_int (by rw [H.out]; rfl), rfl⟩
  · have hU := u8_of hc 11 rfl
    clear hc
    go_enter Tryd.func26, Tryd.ntmps26
    go_wp2
    go_ret
    exact ⟨ret_int (by rw [H.out]; rfl), rfl⟩
  · have hU := u8_of hc 12 rfl
    clear hc
    go_enter Tryd.func26, Tryd.ntmps26
    go_wp2
    go_ret
    exact ⟨ret_int (by rw [H.out]; rfl), rfl⟩
  · have hU := u8_of hc 13 rfl
    clear hc
    go_enter Tryd.func26, Tryd.ntmps26
    go_wp2
    go_ret
    exact ⟨ret_int (by rw [H.out]; rfl), rfl⟩
  · have hU := u8_of hc 32 rfl
    clear hc
    go_enter Tryd.func26, Tryd.ntmps26
    go_wp2
    go_ret
    exact ⟨ret_int (by rw [H.out]; rfl), rfl⟩

theorem width_c2 (s : ByteArray) (i : Nat) (hi : i < s.size) (hs : s.size ≤ 1048576) (w : World) (hc : s[i].toNat = 194) :
    Calls Tryd.prog 26 #[.string s, .int .i64 i] w fun e w' => e = .returned (.int .i64 (swAt s i)) ∧ w' = w := by
  have hU := u8_of hc 194 rfl
  by_cases h1 : i + 1 < s.size
  · by_cases d1 : s[i + 1].toNat = 133
    · have dU := u8_of d1 133 rfl
      have H : Hid (swAt s i = 2) := by
        show swAt s i = 2
        unfold swAt
        rw [bang hi, bang h1]
        unfold sw
        (repeat' split) <;> omega
      clear hc d1
      go_enter Tryd.func26, Tryd.ntmps26
      go_wp2
      go_ret
      exact ⟨ret_int (by rw [H.out]; rfl), rfl⟩
    · by_cases d2 : s[i + 1].toNat = 160
      · have dU := u8_of d2 160 rfl
        have H : Hid (swAt s i = 2) := by
          show swAt s i = 2
          unfold swAt
          rw [bang hi, bang h1]
          unfold sw
          (repeat' split) <;> omega
        clear hc d1 d2
        go_enter Tryd.func26, Tryd.ntmps26
        go_wp2
        go_ret
        exact ⟨ret_int (by rw [H.out]; rfl), rfl⟩
      · have H : Hid (swAt s i = 0) := by
          show swAt s i = 0
          unfold swAt
          rw [bang hi, bang h1]
          unfold sw
          (repeat' split) <;> omega
        have g0 : ((s[i + 1].toNat : Int) == 133) = false := beq_no (by omega)
        have g1 : ((s[i + 1].toNat : Int) == 160) = false := beq_no (by omega)
        clear hc d1 d2
        go_enter Tryd.func26, Tryd.ntmps26
        go_wp2
        go_ret
        exact ⟨ret_int (by rw [H.out]; rfl), rfl⟩
  · have H : Hid (swAt s i = 0) := by
      show swAt s i = 0
      unfold swAt
      rw [bang hi]
      unfold sw
      (repeat' split) <;> omega
    clear hc
    go_enter Tryd.func26, Tryd.ntmps26
    go_wp2
    go_ret
    exact ⟨ret_int (by rw [H.out]; rfl), rfl⟩

theorem width_short (s : ByteArray) (i : Nat) (hi : i < s.size) (hs : s.size ≤ 1048576) (w : World) (hn : ¬ (s[i].toNat = 9 ∨ s[i].toNat = 10 ∨ s[i].toNat = 11 ∨ s[i].toNat = 12 ∨ s[i].toNat = 13 ∨ s[i].toNat = 32 ∨ s[i].toNat = 194)) (h2 : ¬ i + 2 < s.size) :
    Calls Tryd.prog 26 #[.string s, .int .i64 i] w fun e w' => e = .returned (.int .i64 (swAt s i)) ∧ w' = w := by
  have H : Hid (swAt s i = 0) := by
    show swAt s i = 0
    unfold swAt
    rw [bang hi]
    unfold sw
    (repeat' split) <;> omega
  have g0 : ((s[i].toNat : Int) == 9) = false := beq_no (by omega)
  have g1 : ((s[i].toNat : Int) == 10) = false := beq_no (by omega)
  have g2 : ((s[i].toNat : Int) == 11) = false := beq_no (by omega)
  have g3 : ((s[i].toNat : Int) == 12) = false := beq_no (by omega)
  have g4 : ((s[i].toNat : Int) == 13) = false := beq_no (by omega)
  have g5 : ((s[i].toNat : Int) == 32) = false := beq_no (by omega)
  have g6 : ((s[i].toNat : Int) == 194) = false := beq_no (by omega)
  clear hn
  go_enter Tryd.func26, Tryd.ntmps26
  go_wp2
  go_ret
  exact ⟨ret_int (by rw [H.out]; rfl), rfl⟩

theorem width_other (s : ByteArray) (i : Nat) (hi : i < s.size) (hs : s.size ≤ 1048576) (w : World) (hn : ¬ (s[i].toNat = 9 ∨ s[i].toNat = 10 ∨ s[i].toNat = 11 ∨ s[i].toNat = 12 ∨ s[i].toNat = 13 ∨ s[i].toNat = 32 ∨ s[i].toNat = 194)) (h2 : i + 2 < s.size) (hm : ¬ (s[i].toNat = 225 ∨ s[i].toNat = 226 ∨ s[i].toNat = 227)) :
    Calls Tryd.prog 26 #[.string s, .int .i64 i] w fun e w' => e = .returned (.int .i64 (swAt s i)) ∧ w' = w := by
  have h1 : i + 1 < s.size := by omega
  have H : Hid (swAt s i = 0) := by
    show swAt s i = 0
    unfold swAt
    rw [bang hi, bang h1, bang h2]
    unfold sw
    (repeat' split) <;> omega
  have g0 : ((s[i].toNat : Int) == 9) = false := beq_no (by omega)
  have g1 : ((s[i].toNat : Int) == 10) = false := beq_no (by omega)
  have g2 : ((s[i].toNat : Int) == 11) = false := beq_no (by omega)
  have g3 : ((s[i].toNat : Int) == 12) = false := beq_no (by omega)
  have g4 : ((s[i].toNat : Int) == 13) = false := beq_no (by omega)
  have g5 : ((s[i].toNat : Int) == 32) = false := beq_no (by omega)
  have g6 : ((s[i].toNat : Int) == 194) = false := beq_no (by omega)
  have g7 : ((s[i].toNat : Int) == 225) = false := beq_no (by omega)
  have g8 : ((s[i].toNat : Int) == 226) = false := beq_no (by omega)
  have g9 : ((s[i].toNat : Int) == 227) = false := beq_no (by omega)
  clear hn hm
  go_enter Tryd.func26, Tryd.ntmps26
  go_wp2
  go_ret
  exact ⟨ret_int (by rw [H.out]; rfl), rfl⟩

theorem width_e1 (s : ByteArray) (i : Nat) (hi : i < s.size) (hs : s.size ≤ 1048576) (w : World) (hc : s[i].toNat = 225) (h2 : i + 2 < s.size) :
    Calls Tryd.prog 26 #[.string s, .int .i64 i] w fun e w' => e = .returned (.int .i64 (swAt s i)) ∧ w' = w := by
  have h1 : i + 1 < s.size := by omega
  have hU := u8_of hc 225 rfl
  by_cases d1 : s[i + 1].toNat = 154
  · have dU := u8_of d1 154 rfl
    by_cases e1 : s[i + 2].toNat = 128
    · have eU := u8_of e1 128 rfl
      have H : Hid (swAt s i = 3) := by
        show swAt s i = 3
        unfold swAt
        rw [bang hi, bang h1, bang h2]
        unfold sw
        (repeat' split) <;> omega
      clear hc d1 e1
      go_enter Tryd.func26, Tryd.ntmps26
      go_wp2
      go_ret
      exact ⟨ret_int (by rw [H.out]; rfl), rfl⟩
    · have H : Hid (swAt s i = 0) := by
        show swAt s i = 0
        unfold swAt
        rw [bang hi, bang h1, bang h2]
        unfold sw
        (repeat' split) <;> omega
      have g0 : ((s[i + 2].toNat : Int) == 128) = false := beq_no (by omega)
      clear hc d1 e1
      go_enter Tryd.func26, Tryd.ntmps26
      go_wp2
      go_ret
      exact ⟨ret_int (by rw [H.out]; rfl), rfl⟩
  · have H : Hid (swAt s i = 0) := by
      show swAt s i = 0
      unfold swAt
      rw [bang hi, bang h1, bang h2]
      unfold sw
      (repeat' split) <;> omega
    have g0 : ((s[i + 1].toNat : Int) == 154) = false := beq_no (by omega)
    clear hc d1
    go_enter Tryd.func26, Tryd.ntmps26
    go_wp2
    go_ret
    exact ⟨ret_int (by rw [H.out]; rfl), rfl⟩

theorem width_e3 (s : ByteArray) (i : Nat) (hi : i < s.size) (hs : s.size ≤ 1048576) (w : World) (hc : s[i].toNat = 227) (h2 : i + 2 < s.size) :
    Calls Tryd.prog 26 #[.string s, .int .i64 i] w fun e w' => e = .returned (.int .i64 (swAt s i)) ∧ w' = w := by
  have h1 : i + 1 < s.size := by omega
  have hU := u8_of hc 227 rfl
  by_cases d1 : s[i + 1].toNat = 128
  · have dU := u8_of d1 128 rfl
    by_cases e1 : s[i + 2].toNat = 128
    · have eU := u8_of e1 128 rfl
      have H : Hid (swAt s i = 3) := by
        show swAt s i = 3
        unfold swAt
        rw [bang hi, bang h1, bang h2]
        unfold sw
        (repeat' split) <;> omega
      clear hc d1 e1
      go_enter Tryd.func26, Tryd.ntmps26
      go_wp2
      go_ret
      exact ⟨ret_int (by rw [H.out]; rfl), rfl⟩
    · have H : Hid (swAt s i = 0) := by
        show swAt s i = 0
        unfold swAt
        rw [bang hi, bang h1, bang h2]
        unfold sw
        (repeat' split) <;> omega
      have g0 : ((s[i + 2].toNat : Int) == 128) = false := beq_no (by omega)
      clear hc d1 e1
      go_enter Tryd.func26, Tryd.ntmps26
      go_wp2
      go_ret
      exact ⟨ret_int (by rw [H.out]; rfl), rfl⟩
  · have H : Hid (swAt s i = 0) := by
      show swAt s i = 0
      unfold swAt
      rw [bang hi, bang h1, bang h2]
      unfold sw
      (repeat' split) <;> omega
    have g0 : ((s[i + 1].toNat : Int) == 128) = false := beq_no (by omega)
    clear hc d1
    go_enter Tryd.func26, Tryd.ntmps26
    go_wp2
    go_ret
    exact ⟨ret_int (by rw [H.out]; rfl), rfl⟩

set_option maxHeartbeats 400000 in
theorem width_e2 (s : ByteArray) (i : Nat) (hi : i < s.size) (hs : s.size ≤ 1048576) (w : World) (hc : s[i].toNat = 226) (h2 : i + 2 < s.size) :
    Calls Tryd.prog 26 #[.string s, .int .i64 i] w fun e w' => e = .returned (.int .i64 (swAt s i)) ∧ w' = w := by
  have h1 : i + 1 < s.size := by omega
  have hU := u8_of hc 226 rfl
  by_cases d1 : s[i + 1].toNat = 128
  · have dU := u8_of d1 128 rfl
    by_cases e1 : 128 ≤ s[i + 2].toNat ∧ s[i + 2].toNat ≤ 138
    · have H : Hid (swAt s i = 3) := by
        show swAt s i = 3
        unfold swAt
        rw [bang hi, bang h1, bang h2]
        unfold sw
        (repeat' split) <;> omega
      have q1 : (128 : Int) ≤ (s[i + 2].toNat : Int) := by omega
      have q2 : (s[i + 2].toNat : Int) ≤ 138 := by omega
      clear hc d1 e1
      go_enter Tryd.func26, Tryd.ntmps26
      go_wp2
      go_ret
      exact ⟨ret_int (by rw [H.out]; rfl), rfl⟩
    · by_cases q1 : (128 : Int) ≤ (s[i + 2].toNat : Int)
      · have q2 : ¬ (s[i + 2].toNat : Int) ≤ 138 := by omega
        by_cases e2 : s[i + 2].toNat = 168
        · have eU := u8_of e2 168 rfl
          have H : Hid (swAt s i = 3) := by
            show swAt s i = 3
            unfold swAt
            rw [bang hi, bang h1, bang h2]
            unfold sw
            (repeat' split) <;> omega
          clear hc d1 e1 e2 q1 q2
          go_enter Tryd.func26, Tryd.ntmps26
          go_wp2
          go_ret
          exact ⟨ret_int (by rw [H.out]; rfl), rfl⟩
        · by_cases e3 : s[i + 2].toNat = 169
          · have eU := u8_of e3 169 rfl
            have H : Hid (swAt s i = 3) := by
              show swAt s i = 3
              unfold swAt
              rw [bang hi, bang h1, bang h2]
              unfold sw
              (repeat' split) <;> omega
            clear hc d1 e1 e2 e3 q1 q2
            go_enter Tryd.func26, Tryd.ntmps26
            go_wp2
            go_ret
            exact ⟨ret_int (by rw [H.out]; rfl), rfl⟩
          · by_cases e4 : s[i + 2].toNat = 175
            · have eU := u8_of e4 175 rfl
              have H : Hid (swAt s i = 3) := by
                show swAt s i = 3
                unfold swAt
                rw [bang hi, bang h1, bang h2]
                unfold sw
                (repeat' split) <;> omega
              clear hc d1 e1 e2 e3 e4 q1 q2
              go_enter Tryd.func26, Tryd.ntmps26
              go_wp2
              go_ret
              exact ⟨ret_int (by rw [H.out]; rfl), rfl⟩
            · have H : Hid (swAt s i = 0) := by
                show swAt s i = 0
                unfold swAt
                rw [bang hi, bang h1, bang h2]
                unfold sw
                (repeat' split) <;> omega
              have g0 : ((s[i + 2].toNat : Int) == 168) = false := beq_no (by omega)
              have g1 : ((s[i + 2].toNat : Int) == 169) = false := beq_no (by omega)
              have g2 : ((s[i + 2].toNat : Int) == 175) = false := beq_no (by omega)
              clear hc d1 e1 e2 e3 e4
              go_enter Tryd.func26, Tryd.ntmps26
              go_wp2
              go_ret
              exact ⟨ret_int (by rw [H.out]; rfl), rfl⟩
      · have H : Hid (swAt s i = 0) := by
          show swAt s i = 0
          unfold swAt
          rw [bang hi, bang h1, bang h2]
          unfold sw
          (repeat' split) <;> omega
        have g0 : ((s[i + 2].toNat : Int) == 168) = false := beq_no (by omega)
        have g1 : ((s[i + 2].toNat : Int) == 169) = false := beq_no (by omega)
        have g2 : ((s[i + 2].toNat : Int) == 175) = false := beq_no (by omega)
        have q2 : decide ((128 : Int) ≤ (s[i + 2].toNat : Int)) = false := by simp only [decide_eq_false_iff_not]; omega
        obtain ⟨e, he⟩ : ∃ e, s[i + 2] = e := ⟨_, rfl⟩
        rw [he] at g0 g1 g2 q2
        clear hc d1 e1 q1
        go_enter Tryd.func26, Tryd.ntmps26
        go_wp2
        go_ret
        exact ⟨ret_int (by rw [H.out]; rfl), rfl⟩
  · by_cases d2 : s[i + 1].toNat = 129
    · have dU := u8_of d2 129 rfl
      by_cases e1 : s[i + 2].toNat = 159
      · have eU := u8_of e1 159 rfl
        have H : Hid (swAt s i = 3) := by
          show swAt s i = 3
          unfold swAt
          rw [bang hi, bang h1, bang h2]
          unfold sw
          (repeat' split) <;> omega
        clear hc d1 d2 e1
        go_enter Tryd.func26, Tryd.ntmps26
        go_wp2
        go_ret
        exact ⟨ret_int (by rw [H.out]; rfl), rfl⟩
      · have H : Hid (swAt s i = 0) := by
          show swAt s i = 0
          unfold swAt
          rw [bang hi, bang h1, bang h2]
          unfold sw
          (repeat' split) <;> omega
        have g0 : ((s[i + 2].toNat : Int) == 159) = false := beq_no (by omega)
        clear hc d1 d2 e1
        go_enter Tryd.func26, Tryd.ntmps26
        go_wp2
        go_ret
        exact ⟨ret_int (by rw [H.out]; rfl), rfl⟩
    · have H : Hid (swAt s i = 0) := by
        show swAt s i = 0
        unfold swAt
        rw [bang hi, bang h1, bang h2]
        unfold sw
        (repeat' split) <;> omega
      have g0 : ((s[i + 1].toNat : Int) == 128) = false := beq_no (by omega)
      have g1 : ((s[i + 1].toNat : Int) == 129) = false := beq_no (by omega)
      clear hc d1 d2
      go_enter Tryd.func26, Tryd.ntmps26
      go_wp2
      go_ret
      exact ⟨ret_int (by rw [H.out]; rfl), rfl⟩

theorem width_any (s : ByteArray) (i : Nat) (hi : i < s.size) (hs : s.size ≤ 1048576) (w : World) :
    Calls Tryd.prog 26 #[.string s, .int .i64 i] w fun e w' => e = .returned (.int .i64 (swAt s i)) ∧ w' = w := by
  by_cases a1 : s[i].toNat = 9 ∨ s[i].toNat = 10 ∨ s[i].toNat = 11 ∨ s[i].toNat = 12 ∨ s[i].toNat = 13 ∨ s[i].toNat = 32
  · exact width_ascii s i hi hs w a1
  by_cases a2 : s[i].toNat = 194
  · exact width_c2 s i hi hs w a2
  by_cases h2 : i + 2 < s.size
  · by_cases a3 : s[i].toNat = 225
    · exact width_e1 s i hi hs w a3 h2
    by_cases a4 : s[i].toNat = 226
    · exact width_e2 s i hi hs w a4 h2
    by_cases a5 : s[i].toNat = 227
    · exact width_e3 s i hi hs w a5 h2
    exact width_other s i hi hs w (by omega) h2 (by omega)
  · exact width_short s i hi hs w (by omega) h2

end Go.Proofs.Qxb6628254aDoor
