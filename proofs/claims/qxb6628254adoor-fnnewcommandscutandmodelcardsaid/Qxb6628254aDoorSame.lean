import Derived.Test.Qxb6628254aDoorNewP
namespace Go.Proofs.Qxb6628254aDoor
open Go.RowKit

theorem Hid.mk' {p : Prop} (h : p) : Hid p := h

theorem S14.step {w1 W W' : World} {p q r s : Addr} {x y z u : Value} (h : Below w1.heap.size w1 W ∧ W.cell? p = some x ∧ W.cell? q = some y ∧ W.cell? r = some z ∧ W.cell? s = some u) (hb : Below W.heap.size W W') :
    Below w1.heap.size w1 W' ∧ W'.cell? p = some x ∧ W'.cell? q = some y ∧ W'.cell? r = some z ∧ W'.cell? s = some u := by
  obtain ⟨h0, h1, h2, h3, h4⟩ := h
  exact ⟨h0.trans (hb.mono h0.size), (hb.cell (World.block_lt_of_cell? W _ h1)).trans h1, (hb.cell (World.block_lt_of_cell? W _ h2)).trans h2, (hb.cell (World.block_lt_of_cell? W _ h3)).trans h3, (hb.cell (World.block_lt_of_cell? W _ h4)).trans h4⟩

theorem fin14 {w w1 W : World} {q : Prop} (h1 : Below w.heap.size w w1) (h2 : Below w1.heap.size w1 W ∧ q) : Below w.heap.size w W := h1.trans (h2.1.mono h1.size)

theorem below_drewN {w w' : World} (h : ∃ n, w' = w.drewN n) : Below w.heap.size w w' := by
  obtain ⟨n, rfl⟩ := h
  exact ⟨rfl, rfl, rfl, Nat.le_refl _, fun _ _ => rfl⟩

/-- number j of these commands is the block x -/
def Pr (w : World) (v : Value) (j : Nat) (x : Blk) : Prop := ∃ vb va bs, v = .agg #[vb, va] ∧ Bl w vb bs ∧ bs[j]? = some x
theorem Pr.keep {w W : World} {v : Value} {j : Nat} {x : Blk} (h : Pr w v j x) (hb : Below w.heap.size w W) : Pr W v j x := by
  obtain ⟨vb, va, bs, hv, hB, hj⟩ := h
  exact ⟨vb, va, bs, hv, hB.keep hb, hj⟩

theorem text_pr {x : Blk} (v : Value) (j : Nat) (W : World) (h : Pr W v j x) : Calls Tryd.prog 16 #[v, .int .i64 j] W fun e w' => e = .returned (.string x.text) ∧ Below W.heap.size W w' := by
  obtain ⟨vb, va, bs, rfl, hB, hj⟩ := h
  obtain ⟨hl, rfl⟩ := List.getElem?_eq_some_iff.1 hj
  exact text_any vb va bs W hB j hl
theorem prog_pr {x : Blk} (v : Value) (j : Nat) (W : World) (h : Pr W v j x) : Calls Tryd.prog 18 #[v, .int .i64 j] W fun e w' => e = .returned (.string x.prog) ∧ Below W.heap.size W w' := by
  obtain ⟨vb, va, bs, rfl, hB, hj⟩ := h
  obtain ⟨hl, rfl⟩ := List.getElem?_eq_some_iff.1 hj
  exact prog_any vb va bs W hB j hl
theorem flags_pr {x : Blk} (v : Value) (j : Nat) (W : World) (h : Pr W v j x) : Calls Tryd.prog 29 #[v, .int .i64 j] W fun e w' => e = .returned (.string x.args.flags) ∧ Below W.heap.size W w' := by
  obtain ⟨vb, va, bs, rfl, hB, hj⟩ := h
  obtain ⟨hl, rfl⟩ := List.getElem?_eq_some_iff.1 hj
  exact flags_any vb va bs W hB j hl
theorem long_pr {x : Blk} (v : Value) (j : Nat) (W : World) (h : Pr W v j x) : Calls Tryd.prog 30 #[v, .int .i64 j] W fun e w' => (∃ vl, e = .returned vl ∧ Sl w' vl x.args.long) ∧ Below W.heap.size W w' := by
  obtain ⟨vb, va, bs, rfl, hB, hj⟩ := h
  obtain ⟨hl, rfl⟩ := List.getElem?_eq_some_iff.1 hj
  exact long_any vb va bs W hB j hl
theorem ops_pr {x : Blk} (v : Value) (j : Nat) (W : World) (h : Pr W v j x) : Calls Tryd.prog 31 #[v, .int .i64 j] W fun e w' => (∃ vl, e = .returned vl ∧ Sl w' vl x.args.ops) ∧ Below W.heap.size W w' := by
  obtain ⟨vb, va, bs, rfl, hB, hj⟩ := h
  obtain ⟨hl, rfl⟩ := List.getElem?_eq_some_iff.1 hj
  exact ops_any vb va bs W hB j hl
theorem eq_sl (va vb : Value) (W : World) (h : ∃ xs : List ByteArray, xs.length ≤ 1048576 ∧ Sl W va xs ∧ Sl W vb xs) : Calls Tryd.prog 25 #[va, vb] W fun e w' => e = .returned (.bool true) ∧ Below W.heap.size W w' := by
  obtain ⟨xs, hl, h1, h2⟩ := h
  exact (eq_any va vb xs hl W h1 h2).mono fun e w' h => ⟨h.1, below_drewN h.2⟩

theorem Pr.shape {w : World} {v : Value} {j : Nat} {x : Blk} (h : Pr w v j x) : ∃ ab nb cb va, v = .agg #[.slice ab nb cb, va] := by
  obtain ⟨vb, va, bs, hv, hB, hj⟩ := h
  obtain ⟨ab, cb, rfl, _⟩ := hB
  exact ⟨ab, _, cb, va, hv⟩

set_option maxHeartbeats 1000000 in
theorem sameblk_any (v u : Value) (x : Blk) (w : World) (i j : Nat) (hv : ∃ vb ao n c, v = .agg #[vb, .slice ao n c]) (hu : ∃ vb ao n c, u = .agg #[vb, .slice ao n c]) (h1 : Pr w v i x) (h2 : Pr w u j x)
    (hsl : x.args.long.length ≤ 1048576) (hso : x.args.ops.length ≤ 1048576) :
    Calls Tryd.prog 14 #[v, .int .i64 i, u, .int .i64 j] w fun e w' => e = .returned (.bool true) ∧ Below w.heap.size w w' := by
  have HP1 : Hid (Pr w v i x) := h1
  have HP2 : Hid (Pr w u j x) := h2
  obtain ⟨ab, nb, cb, va, rfl⟩ := h1.shape
  obtain ⟨_, aa, na, ca, hv⟩ := hv
  simp at hv
  obtain ⟨rfl, rfl⟩ := hv
  obtain ⟨ad, nd, cd, vc, rfl⟩ := h2.shape
  obtain ⟨_, ac, nc, cc, hu⟩ := hu
  simp at hu
  obtain ⟨rfl, rfl⟩ := hu
  clear h1 h2
  obtain ⟨w1, hw1⟩ : ∃ w1, (w.alloc (.cells #[.slice ab nb cb, .slice aa na ca] 28)).alloc (.cells #[.slice ad nd cd, .slice ac nc cc] 28) = w1 := ⟨_, rfl⟩
  have hb1 : Below w.heap.size w w1 := by rw [← hw1]; exact ((Below.refl _ _).alloc (Nat.le_refl _) _).alloc (by simp) _
  have p1 := HP1.out.keep hb1
  have p2 := HP2.out.keep hb1
  have HB1 : Hid (Below w.heap.size w w1) := hb1
  have b0 : w1.heap[w.heap.size]? = some (.cells #[.slice ab nb cb, .slice aa na ca] 28) := by rw [← hw1]; exact (Below.heap_alloc _ _ _ (by simp)).trans (heap_alloc_new _ _)
  have b1 : w1.heap[w.heap.size + 1]? = some (.cells #[.slice ad nd cd, .slice ac nc cc] 28) := by
    have := heap_alloc_new (w.alloc (.cells #[.slice ab nb cb, .slice aa na ca] 28)) (.cells #[.slice ad nd cd, .slice ac nc cc] 28)
    rw [World.size_alloc] at this
    rw [← hw1]; exact this
  obtain ⟨k0, k1, _, _⟩ := cells2 b0
  obtain ⟨l0, l1, _, _⟩ := cells2 b1
  have HW1 := Hid.mk' hw1
  clear hb1 b0 b1 hw1 HP1 HP2
  go_enter Tryd.func14, Tryd.ntmps14
  go_wp2_with fail
  rw [HW1.out]
  clear HW1
  go_region_held3 (fun w' => Below w1.heap.size w1 w' ∧ w'.cell? ⟨w.heap.size, 0, none⟩ = some (.slice ab nb cb) ∧ w'.cell? ⟨w.heap.size, 1, none⟩ = some (.slice aa na ca) ∧ w'.cell? ⟨w.heap.size + 1, 0, none⟩ = some (.slice ad nd cd) ∧ w'.cell? ⟨w.heap.size + 1, 1, none⟩ = some (.slice ac nc cc)) (first | exact ⟨(Below.refl _ _).drew, k0, k1, l0, l1⟩ | assumption | exact S14.step (by assumption) (by assumption)) (first
    | (go_at_call 16; refine (text_pr (x := x) _ _ _ (Pr.keep (by assumption) (And.left (by assumption)))).mono ?_; rintro e w2 ⟨rfl, hb2⟩)
    | (go_at_call 18; refine (prog_pr (x := x) _ _ _ (Pr.keep (by assumption) (And.left (by assumption)))).mono ?_; rintro e w4 ⟨rfl, hb4⟩)
    | (go_at_call 29; refine (flags_pr (x := x) _ _ _ (Pr.keep (by assumption) (And.left (by assumption)))).mono ?_; rintro e w6 ⟨rfl, hb6⟩)
    | (go_at_call 30; refine (long_pr (x := x) _ _ _ (Pr.keep (by assumption) (And.left (by assumption)))).mono ?_; rintro e w8 ⟨⟨v8, rfl, s8⟩, hb8⟩)
    | (go_at_call 31; refine (ops_pr (x := x) _ _ _ (Pr.keep (by assumption) (And.left (by assumption)))).mono ?_; rintro e w9 ⟨⟨v9, rfl, s9⟩, hb9⟩)
    | (go_at_call 25; refine (eq_sl _ _ _ (by first | exact ⟨_, hsl, Sl.keep (by assumption) hb8, s8⟩ | exact ⟨_, hso, Sl.keep (by assumption) hb9, s9⟩)).mono ?_; rintro e w14 ⟨rfl, hb14⟩))
  all_goals go_wp2_with fail
  go_ret
  exact ⟨rfl, fin14 HB1.out (by assumption)⟩
end Go.Proofs.Qxb6628254aDoor
