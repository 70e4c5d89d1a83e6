/-
  The plain law: words, joined text, program, arguments, blocks: on lists of bytes and of strings. No Go in sight.
-/
import Derived.Lib.SpaceUEq
import Derived.Lib.Join
import Derived.Lib.LastIndexByte
namespace Go.Proofs.Qxb6628254aDoor
open Go

/-! ### words -/
def toB (x : List UInt8) : ByteArray := ⟨x.toArray⟩
theorem toB_data (x : List UInt8) : (toB x).data.toList = x := by simp [toB]
theorem toB_of (s : ByteArray) : toB s.data.toList = s := by cases s; simp [toB]
theorem toB_size (x : List UInt8) : (toB x).size = x.length := by simp [toB, ByteArray.size]

def wordsL (l : List UInt8) : List (List UInt8) := Lib.fieldsU l
def wordsB (s : ByteArray) : List ByteArray := (wordsL s.data.toList).map toB
def joinB (ws : List ByteArray) : ByteArray := toB (Lib.join (ws.map (·.data.toList)) [32])

/-- the bytes of the words, one more for each -/
def total (ws : List (List UInt8)) : Nat := (ws.map (fun w => w.length + 1)).sum

theorem total_cons (w : List UInt8) (r : List (List UInt8)) : total (w :: r) = w.length + 1 + total r := by simp [total]
theorem total_append (a b : List (List UInt8)) : total (a ++ b) = total a + total b := by simp [total]

theorem headSpace_pos_le (l : List UInt8) : Lib.headSpace l ≤ l.length := by
  unfold Lib.headSpace
  cases h : Lib.spaceSeqs.find? (·.isPrefixOf l) with
  | none => simp
  | some q =>
    have := List.find?_some h
    simp only [Option.map_some, Option.getD_some]
    have h2 := List.isPrefixOf_iff_prefix.1 this
    exact h2.length_le

theorem fieldsGo_total : ∀ (f : Nat) (cur l : List UInt8), total (Lib.fieldsGoU f cur l) ≤ cur.length + l.length + 1
  | 0, cur, l => by
    unfold Lib.fieldsGoU
    split
    · simp [total]
    · simp [total]
  | f + 1, cur, [] => by
    unfold Lib.fieldsGoU
    split
    · simp [total]
    · simp [total]
  | f + 1, cur, b :: t => by
    unfold Lib.fieldsGoU
    split
    · have := fieldsGo_total f (cur ++ [b]) t
      simp only [List.length_append, List.length_cons, List.length_nil] at this ⊢
      omega
    · rename_i h
      have h1 := fieldsGo_total f [] ((b :: t).drop (Lib.headSpace (b :: t)))
      have h2 := headSpace_pos_le (b :: t)
      rw [List.length_drop] at h1
      rw [total_append]
      have h3 : total (if cur = [] then [] else [cur]) ≤ cur.length + 1 := by split <;> simp [total]
      simp only [List.length_nil, List.length_cons] at h1 h2 ⊢
      omega

theorem wordsL_total (l : List UInt8) : total (wordsL l) ≤ l.length + 1 := by
  have := fieldsGo_total (l.length + 1) [] l
  simpa [wordsL, Lib.fieldsU] using this

theorem joinTail_length (r : List (List UInt8)) : (Lib.joinTail [32] r).length = total r := by
  induction r with
  | nil => rfl
  | cons w r ih =>
    rw [total_cons, ← ih]
    simp [Lib.joinTail]; omega

theorem join_length (ws : List (List UInt8)) : (Lib.join ws [32]).length ≤ total ws - 1 := by
  cases ws with
  | nil => simp [Lib.join_nil]
  | cons w r =>
    rw [Lib.join_cons, List.length_append, joinTail_length, total_cons]
    omega

theorem mem_total {w : List UInt8} {ws : List (List UInt8)} (h : w ∈ ws) : w.length + 1 ≤ total ws := by
  induction ws with
  | nil => cases h
  | cons v r ih =>
    rw [total_cons]
    rcases List.mem_cons.1 h with rfl | h
    · omega
    · have := ih h; omega

theorem length_total (ws : List (List UInt8)) : ws.length ≤ total ws := by
  induction ws with
  | nil => simp
  | cons v r ih => rw [total_cons]; simp; omega

/-! ### the text of words, cut again, gives the words -/
/-- no white space stands whole inside w -/
def NoSp (w : List UInt8) : Prop := ∀ j, j < w.length → ∀ q ∈ Lib.spaceSeqs, ¬ q <+: w.drop j

theorem headSpace_zero {l : List UInt8} : Lib.headSpace l = 0 ↔ ∀ q ∈ Lib.spaceSeqs, ¬ q <+: l := by
  unfold Lib.headSpace
  constructor
  · intro h q hq hp
    cases hf : Lib.spaceSeqs.find? (·.isPrefixOf l) with
    | none =>
      have := List.find?_eq_none.1 hf q hq
      exact this (List.isPrefixOf_iff_prefix.2 hp)
    | some q' =>
      rw [hf] at h
      have hm := List.mem_of_find?_eq_some hf
      have hne : ∀ q ∈ Lib.spaceSeqs, q.length ≠ 0 := by decide
      exact hne q' hm (by simpa using h)
  · intro h
    have : Lib.spaceSeqs.find? (·.isPrefixOf l) = none := by
      rw [List.find?_eq_none]
      intro q hq hp
      exact h q hq (List.isPrefixOf_iff_prefix.1 hp)
    rw [this]; rfl

/-- every word of the scan is not empty and holds no white space -/
theorem fieldsGo_good : ∀ (f : Nat) (cur l : List UInt8), (∀ j, j < cur.length → ∀ q ∈ Lib.spaceSeqs, ¬ q <+: (cur ++ l).drop j) → l.length ≤ f →
    ∀ w ∈ Lib.fieldsGoU f cur l, w ≠ [] ∧ NoSp w
  | f, cur, [], hc, _ => by
    intro w hw
    rw [Lib.fieldsGoU_nil] at hw
    split at hw
    · cases hw
    · rename_i hne
      rw [List.mem_singleton.1 hw]
      refine ⟨hne, fun j hj q hq hp => hc j hj q hq ?_⟩
      simpa using hp
  | 0, cur, b :: t, _, h => by simp at h
  | f + 1, cur, b :: t, hc, hf => by
    intro w hw
    unfold Lib.fieldsGoU at hw
    split at hw
    · rename_i h0
      refine fieldsGo_good f (cur ++ [b]) t ?_ (by simp at hf; omega) w hw
      intro j hj q hq hp
      by_cases hjc : j < cur.length
      · exact hc j hjc q hq (by simpa using hp)
      · have hje : j = cur.length := by simp at hj; omega
        subst hje
        have e : (cur ++ [b] ++ t).drop cur.length = b :: t := by simp
        rw [e] at hp
        exact headSpace_zero.1 h0 q hq hp
    · rcases List.mem_append.1 hw with h1 | h1
      · split at h1
        · cases h1
        · rename_i hne
          rw [List.mem_singleton.1 h1]
          refine ⟨hne, fun j hj q hq hp => hc j hj q hq ?_⟩
          rw [List.drop_append_of_le_length (by omega)]
          exact List.IsPrefix.trans hp (List.prefix_append _ _)
      · refine fieldsGo_good f [] _ (fun j hj => absurd hj (by simp)) ?_ w h1
        rw [List.length_drop]
        rename_i h0
        simp at hf ⊢; omega

theorem wordsL_good (l : List UInt8) : ∀ w ∈ wordsL l, w ≠ [] ∧ NoSp w :=
  fieldsGo_good (l.length + 1) [] l (fun j hj => absurd hj (by simp)) (by omega)

/-- white space that begins inside w and goes on behind a blank would hold the blank: none does -/
theorem seq_no_blank : ∀ q ∈ Lib.spaceSeqs, 32 ∉ q ∨ q = [32] := by decide

theorem prefix_blank {q u r : List UInt8} (hq : q ∈ Lib.spaceSeqs) (hu : u ≠ []) (hp : q <+: u ++ 32 :: r) : q <+: u := by
  by_cases h : q.length ≤ u.length
  · exact List.prefix_of_prefix_length_le hp (List.prefix_append _ _) h
  · exfalso
    have hu1 : 0 < u.length := List.length_pos_iff.2 hu
    obtain ⟨t, ht⟩ := hp
    have hg : q[u.length]'(by omega) = 32 := by
      have h1 : (q ++ t)[u.length]'(by simp; omega) = 32 := by simp [ht]
      rw [List.getElem_append_left (by omega)] at h1
      exact h1
    have hm : 32 ∈ q := hg ▸ List.getElem_mem _
    rcases seq_no_blank q hq with h2 | h2
    · exact h2 hm
    · subst h2
      simp at h
      exact hu h

theorem noSp_head {w r : List UInt8} (hw : NoSp w) {j : Nat} (hj : j < w.length) : Lib.headSpace (w.drop j ++ 32 :: r) = 0 := by
  rw [headSpace_zero]
  intro q hq hp
  refine hw j hj q hq (prefix_blank hq ?_ hp)
  intro h0
  have := congrArg List.length h0
  simp at this
  omega

theorem noSp_head_end {w : List UInt8} (hw : NoSp w) {j : Nat} (hj : j < w.length) : Lib.headSpace (w.drop j) = 0 := headSpace_zero.2 (hw j hj)

theorem headSpace_blank (r : List UInt8) : Lib.headSpace (32 :: r) = 1 := by
  unfold Lib.headSpace
  have h : Lib.spaceSeqs.find? (·.isPrefixOf (32 :: r)) = some [32] := by
    simp [Lib.spaceSeqs, List.isPrefixOf]
  rw [h]; rfl

/-- the scan over the rest of a word, a blank behind it -/
theorem scan_word (w r : List UInt8) (hw : NoSp w) : ∀ (n j f : Nat), n = w.length - j → j ≤ w.length → n ≤ f → ∀ cur, Lib.fieldsGoU f cur (w.drop j ++ 32 :: r) = Lib.fieldsGoU (f - n) (cur ++ w.drop j) (32 :: r)
  | 0, j, f, hn, hj, hf, cur => by
    have : w.drop j = [] := List.drop_eq_nil_of_le (by omega)
    rw [this]; simp
  | n + 1, j, 0, hn, hj, hf, cur => by omega
  | n + 1, j, f + 1, hn, hj, hf, cur => by
    have hjl : j < w.length := by omega
    have hd : w.drop j = w[j] :: w.drop (j + 1) := List.drop_eq_getElem_cons hjl
    have hz := noSp_head (r := r) hw hjl
    rw [hd] at hz ⊢
    rw [List.cons_append] at hz ⊢
    rw [Lib.fieldsGoU, if_pos hz]
    rw [scan_word w r hw n (j + 1) f (by omega) (by omega) (by omega) (cur ++ [w[j]])]
    simp

theorem scan_word_end (w : List UInt8) (hw : NoSp w) : ∀ (n j f : Nat), n = w.length - j → j ≤ w.length → n ≤ f → ∀ cur, Lib.fieldsGoU f cur (w.drop j) = Lib.fieldsGoU (f - n) (cur ++ w.drop j) []
  | 0, j, f, hn, hj, hf, cur => by
    have : w.drop j = [] := List.drop_eq_nil_of_le (by omega)
    rw [this]; simp
  | n + 1, j, 0, hn, hj, hf, cur => by omega
  | n + 1, j, f + 1, hn, hj, hf, cur => by
    have hjl : j < w.length := by omega
    have hd : w.drop j = w[j] :: w.drop (j + 1) := List.drop_eq_getElem_cons hjl
    have hz := noSp_head_end hw hjl
    rw [hd] at hz ⊢
    rw [Lib.fieldsGoU, if_pos hz]
    rw [scan_word_end w hw n (j + 1) f (by omega) (by omega) (by omega) (cur ++ [w[j]])]
    simp

theorem scan_join : ∀ (ws : List (List UInt8)) (f : Nat), (∀ w ∈ ws, w ≠ [] ∧ NoSp w) → (Lib.join ws [32]).length < f → Lib.fieldsGoU f [] (Lib.join ws [32]) = ws
  | [], f, _, _ => by rw [Lib.join_nil, Lib.fieldsGoU_nil]; simp
  | [w], f, h, hf => by
    rw [Lib.join_one] at hf ⊢
    have hw := h w (List.mem_singleton.2 rfl)
    have := scan_word_end w hw.2 w.length 0 f (by omega) (by omega) (by omega) []
    simp only [List.drop_zero, List.nil_append] at this
    rw [this, Lib.fieldsGoU_nil, if_neg hw.1]
  | w :: v :: r, f, h, hf => by
    have hw := h w (List.mem_cons_self ..)
    have e : Lib.join (w :: v :: r) [32] = w ++ 32 :: Lib.join (v :: r) [32] := by
      rw [Lib.join_cons, Lib.join_cons]
      simp [Lib.joinTail]
    rw [e] at hf ⊢
    simp only [List.length_append, List.length_cons] at hf
    have := scan_word w (Lib.join (v :: r) [32]) hw.2 w.length 0 f (by omega) (by omega) (by omega) []
    simp only [List.drop_zero, List.nil_append] at this
    rw [this]
    obtain ⟨g, hg⟩ : ∃ g, f - w.length = g + 1 := ⟨f - w.length - 1, by omega⟩
    rw [hg, Lib.fieldsGoU, headSpace_blank]
    simp only [Nat.one_ne_zero, if_false, if_neg hw.1, List.drop_succ_cons, List.drop_zero]
    rw [scan_join (v :: r) g (fun u hu => h u (List.mem_cons_of_mem _ hu)) (by omega)]
    rfl

theorem words_join (l : List UInt8) : wordsL (Lib.join (wordsL l) [32]) = wordsL l :=
  scan_join (wordsL l) _ (wordsL_good l) (by omega)

theorem map_toB_data (ws : List (List UInt8)) : (ws.map toB).map (·.data.toList) = ws := by
  rw [List.map_map]
  conv => rhs; rw [← List.map_id ws]
  exact List.map_congr_left fun x _ => toB_data x

theorem wordsB_joinB (s : ByteArray) : wordsB (joinB (wordsB s)) = wordsB s := by
  unfold wordsB joinB
  rw [map_toB_data, toB_data, words_join]

theorem joinB_size (s : ByteArray) : (joinB (wordsB s)).size ≤ s.size := by
  unfold joinB wordsB
  rw [map_toB_data, toB_size]
  have h1 := join_length (wordsL s.data.toList)
  have h2 := wordsL_total s.data.toList
  have h3 : s.data.toList.length = s.size := by rw [Array.length_toList]; rfl
  omega

/-! ### program -/
/-- where the longest end without a slash of the first n bytes begins -/
def slashEnd (s : ByteArray) : Nat → Nat
  | 0 => 0
  | k + 1 => if (s.data[k]!).toNat = 47 then k + 1 else slashEnd s k

theorem slashEnd_le (s : ByteArray) : ∀ n, slashEnd s n ≤ n
  | 0 => Nat.le_refl _
  | k + 1 => by
    unfold slashEnd
    split
    · omega
    · have := slashEnd_le s k; omega

theorem slashEnd_none (s : ByteArray) : ∀ n j, slashEnd s n ≤ j → j < n → (s.data[j]!).toNat ≠ 47
  | 0, j, _, h => by omega
  | k + 1, j, h, hj => by
    unfold slashEnd at h
    split at h
    · omega
    · rename_i hk
      by_cases e : j = k
      · subst e; exact hk
      · exact slashEnd_none s k j h (by omega)

def progB (s : ByteArray) : ByteArray := s.extract (slashEnd s s.size) s.size

theorem lastIdx_slashEnd (s : ByteArray) : ∀ n, Lib.lastIdx s 47 n + 1 = slashEnd s n
  | 0 => rfl
  | k + 1 => by
    unfold Lib.lastIdx slashEnd
    by_cases h : (s.data[k]!).toNat = 47
    · rw [if_pos (by rw [h]; rfl), if_pos h]; simp
    · rw [if_neg (by omega), if_neg h]
      exact lastIdx_slashEnd s k

/-! ### arguments -/
def pre2 (w : ByteArray) : Bool := Lib.hasPrefix w.data.toList [45, 45]
def pre1 (w : ByteArray) : Bool := Lib.hasPrefix w.data.toList [45]
def isDD (w : ByteArray) : Bool := w.data.toList == [45, 45]

structure Args where
  flags : ByteArray
  long : List ByteArray
  ops : List ByteArray

def Args.none : Args := ⟨ByteArray.empty, [], []⟩

def argStep (a : Args) (w : ByteArray) : Args :=
  if pre2 w = true then ⟨a.flags, a.long ++ [w], a.ops⟩
  else if pre1 w = true then ⟨a.flags ++ w.extract 1 w.size, a.long, a.ops⟩
  else ⟨a.flags, a.long, a.ops ++ [w]⟩

def argFold (ws : List ByteArray) : Args := ws.foldl argStep Args.none

theorem argFold_snoc (ws : List ByteArray) (w : ByteArray) : argFold (ws ++ [w]) = argStep (argFold ws) w := by simp [argFold]

/-- where the first two dashes by themselves stand, or the end -/
def endAt (ws : List ByteArray) : Nat := ws.findIdx isDD

def argsB (ws : List ByteArray) : Args :=
  let a := argFold (ws.take (endAt ws))
  ⟨a.flags, a.long, a.ops ++ ws.drop (endAt ws + 1)⟩

/-! ### blocks -/
structure Blk where
  text : ByteArray
  prog : ByteArray
  args : Args

def mkBlk (ws : List ByteArray) : Blk := ⟨joinB ws, progB (ws.headD ByteArray.empty), argsB ws.tail⟩

def blk1 (s : ByteArray) : List Blk := if wordsB s = [] then [] else [mkBlk (wordsB s)]
def blks (bl : List ByteArray) : List Blk := bl.flatMap blk1

theorem blks_append (a b : List ByteArray) : blks (a ++ b) = blks a ++ blks b := by simp [blks]
theorem blks_one (s : ByteArray) : blks [s] = blk1 s := by simp [blks]

theorem blk1_text (s : ByteArray) : (blk1 s).flatMap (fun b => blk1 b.text) = blk1 s := by
  unfold blk1
  by_cases h : wordsB s = []
  · simp [h]
  · have e : (mkBlk (wordsB s)).text = joinB (wordsB s) := rfl
    simp only [if_neg h, List.flatMap_cons, List.flatMap_nil, List.append_nil, e, wordsB_joinB]

/-- building blocks again from the texts gives the same blocks -/
theorem blks_text (bl : List ByteArray) : blks ((blks bl).map Blk.text) = blks bl := by
  unfold blks
  rw [List.flatMap_map]
  induction bl with
  | nil => rfl
  | cons s r ih =>
    rw [List.flatMap_cons, List.flatMap_append, ih, blk1_text]

end Go.Proofs.Qxb6628254aDoor
