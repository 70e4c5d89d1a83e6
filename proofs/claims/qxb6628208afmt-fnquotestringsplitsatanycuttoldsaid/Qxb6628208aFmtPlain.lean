/-
  The plain law: quoting and decoding on lists of bytes. No Go in sight.
-/
namespace Go.Proofs.Qxb6628208aFmt

/-- a byte that a String may hold -/
def pr (c : UInt8) : Bool := decide (32 ≤ c.toNat) && decide (c.toNat ≤ 126)
/-- a byte that is escaped -/
def sp (c : UInt8) : Bool := decide (c.toNat = 34) || decide (c.toNat = 92)
def esc1 (c : UInt8) : List UInt8 := if sp c = true then [92, c] else [c]
def esc (l : List UInt8) : List UInt8 := l.flatMap esc1
def quoted (l : List UInt8) : List UInt8 := 34 :: esc l ++ [34]
def specials (l : List UInt8) : Nat := (l.filter sp).length

theorem esc_nil : esc [] = [] := rfl
theorem esc_cons (c : UInt8) (l : List UInt8) : esc (c :: l) = esc1 c ++ esc l := rfl
theorem esc_snoc (l : List UInt8) (c : UInt8) : esc (l ++ [c]) = esc l ++ esc1 c := by simp [esc, List.flatMap_append]
theorem esc_append (l m : List UInt8) : esc (l ++ m) = esc l ++ esc m := by simp [esc, List.flatMap_append]

theorem esc1_length (c : UInt8) : (esc1 c).length = 1 + if sp c = true then 1 else 0 := by
  unfold esc1; split <;> simp

theorem esc_length (l : List UInt8) : (esc l).length = l.length + specials l := by
  induction l with
  | nil => rfl
  | cons c l ih =>
    rw [esc_cons, List.length_append, ih, esc1_length]
    unfold specials
    by_cases h : sp c = true
    · simp [h]; omega
    · simp [h]; omega

theorem specials_le (l : List UInt8) : specials l ≤ l.length := List.length_filter_le _ _

theorem quoted_length (l : List UInt8) : (quoted l).length = l.length + 2 + specials l := by
  simp [quoted, esc_length]; omega

/-- decoding what stands between the quotes -/
def dec : List UInt8 → Option (List UInt8)
  | [] => some []
  | c :: r =>
    if c.toNat = 92 then
      match r with
      | [] => none
      | d :: r' => if sp d = true then (dec r').map (d :: ·) else none
    else if c.toNat = 34 ∨ pr c = false then none
    else (dec r).map (c :: ·)

theorem dec_esc (l : List UInt8) (h : ∀ c ∈ l, pr c = true) : dec (esc l) = some l := by
  induction l with
  | nil => rfl
  | cons c l ih =>
    have ih' := ih (fun d hd => h d (List.mem_cons_of_mem _ hd))
    have hc := h c (List.mem_cons_self ..)
    rw [esc_cons]
    unfold esc1
    by_cases hs : sp c = true
    · rw [if_pos hs]
      show dec (92 :: c :: esc l) = _
      rw [dec]
      simp [hs, ih']
    · rw [if_neg hs]
      show dec (c :: esc l) = _
      have h1 : ¬ c.toNat = 92 := by intro e; apply hs; simp [sp, e]
      have h2 : ¬ (c.toNat = 34 ∨ pr c = false) := by
        rintro (e | e)
        · apply hs; simp [sp, e]
        · rw [hc] at e; cases e
      unfold dec
      rw [if_neg h1, if_neg h2, ih']
      rfl
end Go.Proofs.Qxb6628208aFmt
