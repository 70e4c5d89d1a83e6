/-
  The plain law of the scan: the width that the Go text finds is the width of the white space that stands there; one step of the scan.
-/
import Derived.Test.Qxb6628254aDoorPlain
namespace Go.Proofs.Qxb6628254aDoor
open Go

/-- the width of the white space whose first bytes are c, d, e, where n bytes are left -/
def sw (n c d e : Nat) : Nat :=
  if c = 9 ∨ c = 10 ∨ c = 11 ∨ c = 12 ∨ c = 13 ∨ c = 32 then 1
  else if c = 194 then (if 1 < n ∧ (d = 133 ∨ d = 160) then 2 else 0)
  else if n < 3 then 0
  else if c = 225 ∧ d = 154 ∧ e = 128 then 3
  else if c = 226 ∧ d = 128 ∧ ((128 ≤ e ∧ e ≤ 138) ∨ e = 168 ∨ e = 169 ∨ e = 175) then 3
  else if c = 226 ∧ d = 129 ∧ e = 159 then 3
  else if c = 227 ∧ d = 128 ∧ e = 128 then 3
  else 0

def swAt (s : ByteArray) (i : Nat) : Nat := sw (s.size - i) (s.data[i]!).toNat (s.data[i + 1]!).toNat (s.data[i + 2]!).toNat

theorem bang {s : ByteArray} {i : Nat} (h : i < s.size) : s.data[i]! = s[i] := by
  rw [getElem!_pos s.data i h]; rfl

theorem head_of_prefix {q l : List UInt8} (hq : q ∈ Lib.spaceSeqs) (hp : q <+: l) : Lib.headSpace l = q.length := by
  unfold Lib.headSpace
  have uniq : ∀ a ∈ Lib.spaceSeqs, ∀ b ∈ Lib.spaceSeqs, a <+: b → a = b := by decide
  cases hf : Lib.spaceSeqs.find? (·.isPrefixOf l) with
  | none =>
    have := List.find?_eq_none.1 hf q hq
    exact absurd (List.isPrefixOf_iff_prefix.2 hp) this
  | some q' =>
    have hm := List.mem_of_find?_eq_some hf
    have hp0 := List.find?_some hf
    have hp' := List.isPrefixOf_iff_prefix.1 hp0
    have : q' = q := by
      by_cases h : q'.length ≤ q.length
      · exact uniq q' hm q hq (List.prefix_of_prefix_length_le hp' hp h)
      · exact (uniq q hq q' hm (List.prefix_of_prefix_length_le hp hp' (by omega))).symm
    rw [this]; rfl

theorem toU {c : UInt8} {n : Nat} (h : c.toNat = n) (k : UInt8) (hk : k.toNat = n) : c = k := UInt8.toNat_inj.1 (h.trans hk.symm)

theorem e_in {e : UInt8} (h : (128 ≤ e.toNat ∧ e.toNat ≤ 138) ∨ e.toNat = 168 ∨ e.toNat = 169 ∨ e.toNat = 175) : [226, 128, e] ∈ Lib.spaceSeqs := by
  have h2 : e.toNat = 128 ∨ e.toNat = 129 ∨ e.toNat = 130 ∨ e.toNat = 131 ∨ e.toNat = 132 ∨ e.toNat = 133 ∨ e.toNat = 134 ∨ e.toNat = 135 ∨ e.toNat = 136 ∨ e.toNat = 137 ∨ e.toNat = 138 ∨ e.toNat = 168 ∨ e.toNat = 169 ∨ e.toNat = 175 := by omega
  rcases h2 with h | h | h | h | h | h | h | h | h | h | h | h | h | h
  · rw [toU h 128 rfl]; decide
  · rw [toU h 129 rfl]; decide
  · rw [toU h 130 rfl]; decide
  · rw [toU h 131 rfl]; decide
  · rw [toU h 132 rfl]; decide
  · rw [toU h 133 rfl]; decide
  · rw [toU h 134 rfl]; decide
  · rw [toU h 135 rfl]; decide
  · rw [toU h 136 rfl]; decide
  · rw [toU h 137 rfl]; decide
  · rw [toU h 138 rfl]; decide
  · rw [toU h 168 rfl]; decide
  · rw [toU h 169 rfl]; decide
  · rw [toU h 175 rfl]; decide

theorem c_in {c : UInt8} (h : c.toNat = 9 ∨ c.toNat = 10 ∨ c.toNat = 11 ∨ c.toNat = 12 ∨ c.toNat = 13 ∨ c.toNat = 32) : [c] ∈ Lib.spaceSeqs := by
  rcases h with h | h | h | h | h | h
  · rw [toU h 9 rfl]; decide
  · rw [toU h 10 rfl]; decide
  · rw [toU h 11 rfl]; decide
  · rw [toU h 12 rfl]; decide
  · rw [toU h 13 rfl]; decide
  · rw [toU h 32 rfl]; decide

/-- every white space is of one of these makes -/
theorem seq_makes : ∀ q ∈ Lib.spaceSeqs, (∃ c, q = [c] ∧ (c.toNat = 9 ∨ c.toNat = 10 ∨ c.toNat = 11 ∨ c.toNat = 12 ∨ c.toNat = 13 ∨ c.toNat = 32)) ∨
    (∃ d, q = [194, d] ∧ (d.toNat = 133 ∨ d.toNat = 160)) ∨ q = [225, 154, 128] ∨ (∃ e, q = [226, 128, e] ∧ ((128 ≤ e.toNat ∧ e.toNat ≤ 138) ∨ e.toNat = 168 ∨ e.toNat = 169 ∨ e.toNat = 175)) ∨ q = [226, 129, 159] ∨ q = [227, 128, 128] := by
  intro q hq
  simp only [Lib.spaceSeqs, List.mem_cons, List.not_mem_nil, or_false] at hq
  rcases hq with rfl | rfl | rfl | rfl | rfl | rfl | rfl | rfl | rfl | rfl | rfl | rfl | rfl | rfl | rfl | rfl | rfl | rfl | rfl | rfl | rfl | rfl | rfl | rfl | rfl
  all_goals first
    | exact .inl ⟨_, rfl, by decide⟩
    | exact .inr (.inl ⟨_, rfl, by decide⟩)
    | exact .inr (.inr (.inl rfl))
    | exact .inr (.inr (.inr (.inl ⟨_, rfl, by decide⟩)))
    | exact .inr (.inr (.inr (.inr (.inl rfl))))
    | exact .inr (.inr (.inr (.inr (.inr rfl))))

theorem headSpace_sw (l : List UInt8) (c : UInt8) (t : List UInt8) (hl : l = c :: t) : Lib.headSpace l = sw l.length c.toNat (t.getD 0 0).toNat (t.getD 1 0).toNat := by
  subst hl
  unfold sw
  by_cases h1 : c.toNat = 9 ∨ c.toNat = 10 ∨ c.toNat = 11 ∨ c.toNat = 12 ∨ c.toNat = 13 ∨ c.toNat = 32
  · rw [if_pos h1]
    exact head_of_prefix (c_in h1) ⟨t, rfl⟩
  rw [if_neg h1]
  by_cases h2 : c.toNat = 194
  · rw [if_pos h2]
    by_cases h3 : 1 < (c :: t).length ∧ ((t.getD 0 0).toNat = 133 ∨ (t.getD 0 0).toNat = 160)
    · rw [if_pos h3]
      obtain ⟨h4, h5⟩ := h3
      match t, h4, h5 with
      | d :: r, _, h5 =>
        have hq : [c, d] ∈ Lib.spaceSeqs := by
          rw [toU h2 194 rfl]
          rcases h5 with h5 | h5
          · rw [toU (c := d) h5 133 rfl]; decide
          · rw [toU (c := d) h5 160 rfl]; decide
        exact head_of_prefix hq ⟨r, rfl⟩
    · rw [if_neg h3, headSpace_zero]
      intro q hq hp
      rcases seq_makes q hq with ⟨x, rfl, hx⟩ | ⟨d, rfl, hd⟩ | rfl | ⟨e, rfl, he⟩ | rfl | rfl
      · have : x = c := (List.cons_prefix_cons.1 hp).1
        subst this; exact h1 hx
      · match t, h3, hp with
        | [], _, hp => simp at hp
        | y :: r, h3, hp =>
          have := (List.cons_prefix_cons.1 (List.cons_prefix_cons.1 hp).2).1
          subst this
          exact h3 ⟨by simp, hd⟩
      all_goals
        have := (List.cons_prefix_cons.1 hp).1
        rw [← this] at h2
        revert h2; decide
  rw [if_neg h2]
  by_cases h3 : (c :: t).length < 3
  · rw [if_pos h3, headSpace_zero]
    intro q hq hp
    have hle := hp.length_le
    rcases seq_makes q hq with ⟨x, rfl, hx⟩ | ⟨d, rfl, hd⟩ | rfl | ⟨e, rfl, he⟩ | rfl | rfl
    · have : x = c := (List.cons_prefix_cons.1 hp).1
      subst this; exact h1 hx
    · have := (List.cons_prefix_cons.1 hp).1
      rw [← this] at h2
      exact h2 rfl
    all_goals
      simp at hle h3
      omega
  rw [if_neg h3]
  match t, h3 with
  | [], h3 => simp at h3
  | [_], h3 => simp at h3
  | d :: e :: r, _ =>
    show _ = if c.toNat = 225 ∧ d.toNat = 154 ∧ e.toNat = 128 then 3 else if c.toNat = 226 ∧ d.toNat = 128 ∧ ((128 ≤ e.toNat ∧ e.toNat ≤ 138) ∨ e.toNat = 168 ∨ e.toNat = 169 ∨ e.toNat = 175) then 3 else if c.toNat = 226 ∧ d.toNat = 129 ∧ e.toNat = 159 then 3 else if c.toNat = 227 ∧ d.toNat = 128 ∧ e.toNat = 128 then 3 else 0
    have hpre : [c, d, e] <+: c :: d :: e :: r := ⟨r, rfl⟩
    by_cases g1 : c.toNat = 225 ∧ d.toNat = 154 ∧ e.toNat = 128
    · rw [if_pos g1]
      have hq : [c, d, e] ∈ Lib.spaceSeqs := by rw [toU g1.1 225 rfl, toU g1.2.1 154 rfl, toU g1.2.2 128 rfl]; decide
      exact head_of_prefix hq hpre
    rw [if_neg g1]
    by_cases g2 : c.toNat = 226 ∧ d.toNat = 128 ∧ ((128 ≤ e.toNat ∧ e.toNat ≤ 138) ∨ e.toNat = 168 ∨ e.toNat = 169 ∨ e.toNat = 175)
    · rw [if_pos g2]
      have hq : [c, d, e] ∈ Lib.spaceSeqs := by rw [toU g2.1 226 rfl, toU g2.2.1 128 rfl]; exact e_in g2.2.2
      exact head_of_prefix hq hpre
    rw [if_neg g2]
    by_cases g3 : c.toNat = 226 ∧ d.toNat = 129 ∧ e.toNat = 159
    · rw [if_pos g3]
      have hq : [c, d, e] ∈ Lib.spaceSeqs := by rw [toU g3.1 226 rfl, toU g3.2.1 129 rfl, toU g3.2.2 159 rfl]; decide
      exact head_of_prefix hq hpre
    rw [if_neg g3]
    by_cases g4 : c.toNat = 227 ∧ d.toNat = 128 ∧ e.toNat = 128
    · rw [if_pos g4]
      have hq : [c, d, e] ∈ Lib.spaceSeqs := by rw [toU g4.1 227 rfl, toU g4.2.1 128 rfl, toU g4.2.2 128 rfl]; decide
      exact head_of_prefix hq hpre
    rw [if_neg g4, headSpace_zero]
    intro q hq hp
    rcases seq_makes q hq with ⟨x, rfl, hx⟩ | ⟨y, rfl, hy⟩ | rfl | ⟨z, rfl, hz⟩ | rfl | rfl
    · have : x = c := (List.cons_prefix_cons.1 hp).1
      subst this; exact h1 hx
    · have := (List.cons_prefix_cons.1 hp).1
      rw [← this] at h2
      exact h2 rfl
    all_goals
      have p1 := (List.cons_prefix_cons.1 hp).1
      have p2 := (List.cons_prefix_cons.1 (List.cons_prefix_cons.1 hp).2).1
      have p3 := (List.cons_prefix_cons.1 (List.cons_prefix_cons.1 (List.cons_prefix_cons.1 hp).2).2).1
      subst p1 p2 p3
      first
        | exact g1 ⟨rfl, rfl, rfl⟩
        | exact g2 ⟨rfl, rfl, hz⟩
        | exact g3 ⟨rfl, rfl, rfl⟩
        | exact g4 ⟨rfl, rfl, rfl⟩

theorem getD_bang (s : ByteArray) (i : Nat) (h : i < s.size) : s.data.toList.getD i 0 = s.data[i]! := by
  rw [getElem!_pos s.data i h]
  simp [List.getD, h]

theorem sw_e {n c d e e' : Nat} (h : n < 3) : sw n c d e = sw n c d e' := by
  unfold sw
  simp only [if_pos h]

theorem sw_de {n c d e d' e' : Nat} (h : n < 2) : sw n c d e = sw n c d' e' := by
  have h3 : n < 3 := by omega
  have h1 : ¬ 1 < n := by omega
  unfold sw
  simp only [if_pos h3, h1, false_and, if_false]

theorem swAt_eq (s : ByteArray) (i : Nat) (hi : i < s.size) : swAt s i = Lib.headSpace (s.data.toList.drop i) := by
  have hl : s.data.toList.length = s.size := by rw [Array.length_toList]; rfl
  have hd : s.data.toList.drop i = s.data.toList[i]'(by omega) :: s.data.toList.drop (i + 1) := List.drop_eq_getElem_cons (by omega)
  have e0 : s.data.toList[i]'(by omega) = s.data[i]! := by rw [bang hi]; rfl
  rw [headSpace_sw _ _ _ hd, List.length_drop, e0, hl]
  unfold swAt
  have ed : (s.data.toList.drop (i + 1)).getD 0 0 = s.data.toList.getD (i + 1) 0 := by simp [List.getD]
  have ee : (s.data.toList.drop (i + 1)).getD 1 0 = s.data.toList.getD (i + 2) 0 := by simp [List.getD]
  rw [ed, ee]
  by_cases h1 : i + 1 < s.size
  · rw [getD_bang s (i + 1) h1]
    by_cases h2 : i + 2 < s.size
    · rw [getD_bang s (i + 2) h2]
    · exact sw_e (by omega)
  · exact sw_de (by omega)

/-- the scan, from cur on -/
def G (cur l : List UInt8) : List (List UInt8) := Lib.fieldsGoU l.length cur l

theorem G_fuel (f : Nat) (cur l : List UInt8) (h : l.length ≤ f) : Lib.fieldsGoU f cur l = G cur l := by
  unfold G
  rw [Lib.fieldsGo_eq l.length f cur l (Nat.le_refl _) h, Lib.fieldsGo_eq l.length l.length cur l (Nat.le_refl _) (Nat.le_refl _)]

theorem G_nil (cur : List UInt8) : G cur [] = if cur = [] then [] else [cur] := Lib.fieldsGoU_nil _ _

theorem G_step (cur : List UInt8) (b : UInt8) (t : List UInt8) (h : Lib.headSpace (b :: t) = 0) : G cur (b :: t) = G (cur ++ [b]) t := by
  show Lib.fieldsGoU (t.length + 1) cur (b :: t) = _
  rw [Lib.fieldsGoU, if_pos h, G_fuel _ _ _ (Nat.le_refl _)]

theorem G_space (cur : List UInt8) (b : UInt8) (t : List UInt8) (h : Lib.headSpace (b :: t) ≠ 0) : G cur (b :: t) = (if cur = [] then [] else [cur]) ++ G [] ((b :: t).drop (Lib.headSpace (b :: t))) := by
  show Lib.fieldsGoU (t.length + 1) cur (b :: t) = _
  rw [Lib.fieldsGoU, if_neg h, G_fuel _ _ _ (by rw [List.length_drop]; simp; omega)]

theorem wordsL_G (l : List UInt8) : wordsL l = G [] l := G_fuel _ _ _ (by omega)

end Go.Proofs.Qxb6628254aDoor
