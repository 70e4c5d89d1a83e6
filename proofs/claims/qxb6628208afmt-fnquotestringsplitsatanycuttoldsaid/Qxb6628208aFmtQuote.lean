import Derived.Test.Qxb6628208aFmtShelf
import Derived.Test.Qxb6628208aFmtNp
import Derived.Test.Qxb6628208aFmtPlain
namespace Go.Proofs.Qxb6628208aFmt
open Go.RowKit Go.Extern.Stop Go.Stop Go.Extern

/-- what QuoteString hands back: the quoting and nil; or the empty text and an error -/
def QAns (l : List UInt8) (e : Ending) : Prop :=
  ((∀ c ∈ l, pr c = true) ∧ e = .returned (.tuple #[.string ⟨(quoted l).toArray⟩, .nilIface])) ∨
  ((¬ ∀ c ∈ l, pr c = true) ∧ ∃ a, e = .returned (.tuple #[.string ByteArray.empty, .iface 48 (.pointer (some a))]))

/-- the builder's state behind k rounds -/
structure Qk (w wr : World) (s : ByteArray) (k : Nat) : Prop where
  at_ : Lib.BuilderAt 34 5 w.heap.size w.heap.size (.pointer (some ⟨w.heap.size, 0, none⟩)) (Lib.byteCells (34 :: esc (s.data.toList.take k))) wr
  bel : Below w.heap.size w wr
  good : ∀ c ∈ s.data.toList.take k, pr c = true

theorem take_snoc (s : ByteArray) (k : Nat) (h : k < s.size) : s.data.toList.take (k + 1) = s.data.toList.take k ++ [s[k]] := by
  rw [List.take_succ_eq_append_getElem (by simpa using h)]; rfl

theorem esc_take_le (s : ByteArray) (k : Nat) (hs : s.size ≤ 1048576) : (esc (s.data.toList.take k)).length ≤ 2097152 := by
  rw [esc_length]
  have h1 := specials_le (s.data.toList.take k)
  have h2 : (s.data.toList.take k).length ≤ s.data.toList.length := by rw [List.length_take]; omega
  have h3 : s.data.toList.length = s.size := by rw [Array.length_toList]; rfl
  omega

theorem grow_any (s : ByteArray) (hs : s.size ≤ 1048576) (w : World) (b : Nat) (hb : b = w.heap.size) :
    Calls Tryf.prog 11 #[.pointer (some ⟨b, 0, none⟩), .int .i64 ((s.size : Int) + 2)] (w.alloc (.cells #[.pointer none, .slice none 0 0] 34)) fun e w' => e = .returned (.tuple #[]) ∧ (Lib.BuilderAt 34 5 w.heap.size w.heap.size (.pointer (some ⟨w.heap.size, 0, none⟩)) [] w' ∧ Below w.heap.size w w') := by
  subst hb
  have h := Tryf.Builder_Grow_fresh w.heap.size w.heap.size (s.size + 2) (w.alloc (.cells #[.pointer none, .slice none 0 0] 34)) (Nat.le_refl _) (by show (w.heap.push _)[_]? = _; simp) (by simp) (by omega)
  rw [show (((s.size + 2 : Nat)) : Int) = (s.size : Int) + 2 by omega] at h
  exact h.mono fun e w' ⟨he, hb, hbel⟩ => ⟨he, hb, ((Below.refl _ _).alloc (Nat.le_refl _) _).trans hbel⟩

theorem wb_any (B b : Nat) (l : List UInt8) (c : UInt8) (w0 w : World) (h : Lib.BuilderAt 34 5 B b (.pointer (some ⟨b, 0, none⟩)) (Lib.byteCells l) w) (hl : l.length ≤ 4194304) (hbel : Below B w0 w) (hB : B ≤ w0.heap.size) (n : Int) (hn : n = c.toNat) :
    Calls Tryf.prog 12 #[.pointer (some ⟨b, 0, none⟩), .int .u8 n] w fun e w' => e = .returned .nilIface ∧ (Lib.BuilderAt 34 5 B b (.pointer (some ⟨b, 0, none⟩)) (Lib.byteCells (l ++ [c])) w' ∧ Below B w0 w') := by
  subst hn
  refine (Tryf.Builder_WriteByte B b (Lib.byteCells l) c.toNat w (.inr h) (by rw [Lib.byteCells_length]; omega) (Nat.le_trans hB hbel.size)).mono fun e w' ⟨he, hb, hbel'⟩ => ⟨he, ?_, hbel.trans hbel'⟩
  rw [Lib.byteCells_append]
  exact hb

theorem Qk.step {w wr w' : World} {s : ByteArray} {k : Nat} (h : Qk w wr s k) (hk : k < s.size) (hp : pr s[k] = true)
    (hb : Lib.BuilderAt 34 5 w.heap.size w.heap.size (.pointer (some ⟨w.heap.size, 0, none⟩)) (Lib.byteCells ((34 :: esc (s.data.toList.take k)) ++ esc1 s[k])) w') (hbel : Below w.heap.size w w') : Qk w w' s (k + 1) := by
  refine ⟨?_, hbel, ?_⟩
  · rw [take_snoc s k hk, esc_snoc]
    exact hb
  · rw [take_snoc s k hk]
    intro c hc
    rcases List.mem_append.1 hc with h1 | h1
    · exact h.good c h1
    · rw [List.mem_singleton.1 h1]; exact hp

theorem Qk.bad {w wr : World} {s : ByteArray} {k : Nat} (_h : Qk w wr s k) (hk : k < s.size) (hp : pr s[k] = false) : ¬ ∀ c ∈ s.data.toList, pr c = true := by
  intro hall
  have hm : s[k] ∈ s.data.toList := by
    have : s[k] = s.data.toList[k]'(by rw [Array.length_toList]; exact hk) := rfl
    rw [this]
    exact List.getElem_mem _
  rw [hall _ hm] at hp
  cases hp

theorem Qk.len {w wr : World} {s : ByteArray} {k : Nat} (_h : Qk w wr s k) (hs : s.size ≤ 1048576) : (34 :: esc (s.data.toList.take k)).length ≤ 2097153 := by
  have := esc_take_le s k hs
  simp only [List.length_cons]
  omega

set_option maxHeartbeats 400000 in
theorem quote_any (F : Interp) (s : ByteArray) (hs : s.size ≤ 1048576) (w : World) (hF : F.answers w.tape) :
    Calls Tryf.prog 6 #[.string s] w fun e w' => QAns s.data.toList e ∧ Below w.heap.size w w' := by
  go_enter Tryf.func6, Tryf.ntmps6
  go_wp2_with fail
  refine (grow_any s hs w _ rfl).mono ?_
  rintro e w1 ⟨rfl, h1, hb1⟩
  have H1 : Hid (Lib.BuilderAt 34 5 w.heap.size w.heap.size (.pointer (some ⟨w.heap.size, 0, none⟩)) [] w1 ∧ Below w.heap.size w w1) := ⟨h1, hb1⟩
  clear h1 hb1
  go_wp2_with fail
  refine (wb_any w.heap.size w.heap.size [] 34 w w1 H1.out.1 (by simp) H1.out.2 (Nat.le_refl _) 34 rfl).mono ?_
  rintro e w2 ⟨rfl, h2, hb2⟩
  have H2 : Hid (Qk w w2 s 0) := ⟨h2, hb2, by simp⟩
  clear h2 hb2 H1
  go_wp2_with fail
  go_loopw [5] (fun i wr => ∃ k : Nat, k ≤ s.size ∧ i = .int .i64 k ∧ Qk w wr s k) (fun i _ => s.size - (intOf i).toNat)
  case atStart => exact ⟨0, Nat.zero_le _, rfl, H2.out⟩
  case round =>
    clear H2
    obtain ⟨k, hk, rfl, hQ⟩ := hrel
    have HQ : Hid (Qk w wr s k) := hQ
    clear hQ
    have hFr : F.answers wr.tape := by rw [HQ.out.bel.tape]; exact hF
    by_cases hlt : k < s.size
    · by_cases c1 : (s[k].toNat : Int) < 32
      · have hp : pr s[k] = false := by unfold pr; simp; omega
        have hq := Qk.bad HQ.out hlt hp
        have HB : Hid (¬ ∀ c ∈ s.data.toList, pr c = true) := hq
        clear hp hq
        go_wp2_with fail
        refine (notPrintable_any F _ _ wr hFr).mono ?_
        rintro e w3 ⟨a, rfl, hb3⟩
        go_wp2_with fail
        go_ret2
        exact ⟨.inr ⟨HB.out, a, rfl⟩, HQ.out.bel.trans (hb3.mono HQ.out.bel.size)⟩
      · by_cases c2 : 126 < (s[k].toNat : Int)
        · have hp : pr s[k] = false := by unfold pr; simp; omega
          have hq := Qk.bad HQ.out hlt hp
          have HB : Hid (¬ ∀ c ∈ s.data.toList, pr c = true) := hq
          clear hp hq
          go_wp2_with fail
          refine (notPrintable_any F _ _ wr hFr).mono ?_
          rintro e w3 ⟨a, rfl, hb3⟩
          go_wp2_with fail
          go_ret2
          exact ⟨.inr ⟨HB.out, a, rfl⟩, HQ.out.bel.trans (hb3.mono HQ.out.bel.size)⟩
        · have hp : pr s[k] = true := by unfold pr; simp; omega
          have HP : Hid (pr s[k] = true) := hp
          clear hp
          by_cases c3 : s[k].toNat = 34 ∨ s[k].toNat = 92
          · have HS : Hid (esc1 s[k] = [92, s[k]]) := by
              show esc1 s[k] = _
              unfold esc1 sp
              rw [if_pos (by simpa using c3)]
            obtain ⟨b1, b2, c4, c5, c6⟩ : ∃ b1 b2 : Bool, ((s[k].toNat : Int) == 34) = b1 ∧ ((s[k].toNat : Int) == 92) = b2 ∧ (b1 || b2) = true := by
              refine ⟨_, _, rfl, rfl, ?_⟩
              simp; omega
            clear c3
            cases b1 <;> cases b2 <;> first | (cases c6; done) | skip
            all_goals
              go_wp2_with fail
              refine (wb_any w.heap.size w.heap.size _ 92 w wr HQ.out.at_ (by have := HQ.out.len hs; omega) HQ.out.bel (Nat.le_refl _) 92 rfl).mono ?_
              rintro e w3 ⟨rfl, h3, hb3⟩
              have H3 : Hid _ := (⟨h3, hb3⟩ : _ ∧ _)
              clear h3 hb3
              go_wp2_with fail
              refine (wb_any w.heap.size w.heap.size _ s[k] w w3 H3.out.1 (by have := HQ.out.len hs; simp only [List.length_append, List.length_cons, List.length_nil] at this ⊢; omega) H3.out.2 (Nat.le_refl _) _ (by omega)).mono ?_
              rintro e w4 ⟨rfl, h4, hb4⟩
              have H4 : Hid (Qk w w4 s (k + 1)) := HQ.out.step hlt HP.out (by rw [HS.out]; simpa using h4) hb4
              clear h4 hb4 H3
              go_wp2_with fail
              go_roundw
              case rel => exact ⟨k + 1, by omega, by go_num, H4.out⟩
              case measure => simp [intOf]; omega
          · have HS : Hid (esc1 s[k] = [s[k]]) := by
              show esc1 s[k] = _
              unfold esc1 sp
              rw [if_neg (by simpa using c3)]
            have c4 : ((s[k].toNat : Int) == 34) = false := by simp; omega
            have c5 : ((s[k].toNat : Int) == 92) = false := by simp; omega
            clear c3
            go_wp2_with fail
            refine (wb_any w.heap.size w.heap.size _ s[k] w wr HQ.out.at_ (by have := HQ.out.len hs; omega) HQ.out.bel (Nat.le_refl _) _ rfl).mono ?_
            rintro e w4 ⟨rfl, h4, hb4⟩
            have H4 : Hid (Qk w w4 s (k + 1)) := HQ.out.step hlt HP.out (by rw [HS.out]; exact h4) hb4
            clear h4 hb4
            go_wp2_with fail
            go_roundw
            case rel => exact ⟨k + 1, by omega, by go_num, H4.out⟩
            case measure => simp [intOf]; omega
    · obtain rfl : k = s.size := by omega
      have hall : s.data.toList.take s.size = s.data.toList := List.take_of_length_le (by rw [Array.length_toList]; exact Nat.le_refl _)
      have HA : Hid (s.data.toList.take s.size = s.data.toList) := hall
      clear hall
      go_wp2_with fail
      refine (wb_any w.heap.size w.heap.size _ 34 w wr HQ.out.at_ (by have := HQ.out.len hs; omega) HQ.out.bel (Nat.le_refl _) 34 rfl).mono ?_
      rintro e w3 ⟨rfl, h3, hb3⟩
      rw [HA.out] at h3
      have H3 : Hid (Lib.BuilderAt 34 5 w.heap.size w.heap.size (.pointer (some ⟨w.heap.size, 0, none⟩)) (Lib.byteCells (quoted s.data.toList)) w3 ∧ Below w.heap.size w w3) := ⟨h3, hb3⟩
      clear h3 hb3
      go_wp2_with fail
      refine (Tryf.Builder_String w.heap.size w.heap.size (quoted s.data.toList) w3 (.inr H3.out.1) (by simp [quoted])).mono ?_
      rintro e w4 ⟨rfl, hb4⟩
      go_wp2_with fail
      go_ret2
      exact ⟨.inl ⟨by have := HQ.out.good; rwa [HA.out] at this, rfl⟩, H3.out.2.trans hb4⟩

end Go.Proofs.Qxb6628208aFmt
