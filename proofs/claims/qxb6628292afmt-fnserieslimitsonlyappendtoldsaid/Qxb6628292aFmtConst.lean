import Derived.Test.Qxb6628292aFmtOver
import Derived.Deep.OwnRows
import Derived.Laws.MakeOwn
import Derived.Laws.ResultCell
namespace Go.Proofs.Qxb6628292aFmt
open Go.RowKit
theorem Tryf.info52 : (Tryf.prog.info? 52).map (fun i => (i.zero, i.size, i.bytes)) = some (some (.agg #[.int .i64 0, .float .f64 0]), 2, 16) := by kernel_rfl

theorem run_store_float (P : Program) (w : World) (a : Addr) (m : Mode) (k : FloatKind) (n : Nat) : (store a (.float k n) m).run P w = stored P w a (.float k n) m := run_store P w a _ m rfl
attribute [local go_sem] run_store_float

/-- a row of ints -/
def Wk (w : World) (v : Value) (n : Nat) (g : Nat → Int) : Prop := ∃ b cap, v = .slice (some ⟨b, 0, none⟩) n cap ∧ n ≤ cap ∧ cap ≤ maxLen ∧ ∀ i : Nat, i < n → w.cell? ⟨b, i, none⟩ = some (.int .i64 (g i))

theorem Wk.keep {w w' : World} {v : Value} {n : Nat} {g : Nat → Int} (h : Wk w v n g) (hb : Below w.heap.size w w') : Wk w' v n g := by
  obtain ⟨b, cap, e, h1, h2, hc⟩ := h
  exact ⟨b, cap, e, h1, h2, fun i hi => cell_step (hc i hi) hb⟩

/-- the samples behind k rounds -/
def sam (g : Nat → Int) (v k j : Nat) : Value :=
  if j < k * 2 then (if j % 2 = 0 then .int .i64 (g (j / 2)) else .float .f64 v) else (if j % 2 = 0 then .int .i64 0 else .float .f64 0)

theorem set_block {w : World} {b i : Nat} {cs : Array Value} {T : TypeId} {fr : Nat × Nat} (hb : w.heap[b]? = some (.cells cs T fr)) (v : Value) :
    (w.setCell ⟨b, i, none⟩ v).heap[b]? = some (.cells (cs.setIfInBounds i v) T fr) := by
  simp [World.setCell, Array.getElem?_modify, hb]

/-- what constant holds behind k rounds -/
structure KInv (w wr : World) (m l : ByteArray) (v n k : Nat) (g : Nat → Int) : Prop where
  res : wr.heap[w.heap.size]? = some (.cells #[.string ⟨#[]⟩, .string ⟨#[]⟩, .slice none 0 0] 36)
  row : wr.rowIs (w.heap.size + 1) 52 (n * 2) (sam g v k)
  st : wr.heap[w.heap.size + 1 + 1]? = some (.cells #[.string m, .string l, .slice (some ⟨w.heap.size + 1, 0, none⟩) n n] 36)
  bel : Below w.heap.size w wr

theorem made_two (x y : Value) (n j : Nat) (h : j < n * 2) : (madeCells #[x, y] (n * 2))[j]? = some (if j % 2 = 0 then x else y) := by
  rcases Nat.mod_two_eq_zero_or_one j with e | e <;> simp [madeCells, h, e]

theorem KInv.start (w : World) (m l : ByteArray) (v n : Nat) (g : Nat → Int) :
    KInv w (((w.alloc (.cells #[.string ⟨#[]⟩, .string ⟨#[]⟩, .slice none 0 0] 36)).alloc (.cells (madeCells #[.int .i64 0, .float .f64 0] (n * 2)) 52)).alloc (.cells #[.string m, .string l, .slice (some ⟨w.heap.size + 1, 0, none⟩) n n] 36)) m l v n 0 g := by
  refine ⟨?_, ?_, ?_, ?_⟩
  · exact (Below.heap_alloc _ _ _ (by simp; omega)).trans ((Below.heap_alloc _ _ _ (by simp)).trans (heap_alloc_new _ _))
  · have h := World.rowIs_alloc (w.alloc (.cells #[.string ⟨#[]⟩, .string ⟨#[]⟩, .slice none 0 0] 36)) (madeCells #[.int .i64 0, .float .f64 0] (n * 2)) 52 (sam g v 0) (fun i hi => by
      rw [size_madeCells] at hi
      rw [made_two _ _ _ _ hi]
      simp [sam])
    rw [size_madeCells] at h
    have e : (w.alloc (.cells #[.string ⟨#[]⟩, .string ⟨#[]⟩, .slice none 0 0] 36)).heap.size = w.heap.size + 1 := by simp
    rw [e] at h
    exact h.alloc _
  · have h := heap_alloc_new ((w.alloc (.cells #[.string ⟨#[]⟩, .string ⟨#[]⟩, .slice none 0 0] 36)).alloc (.cells (madeCells #[.int .i64 0, .float .f64 0] (n * 2)) 52)) (.cells #[.string m, .string l, .slice (some ⟨w.heap.size + 1, 0, none⟩) n n] 36)
    simpa using h
  · exact (((Below.refl _ _).alloc (Nat.le_refl _) _).alloc (by simp) _).alloc (by simp; omega) _

theorem KInv.step {w wr : World} {m l : ByteArray} {v n k : Nat} {g : Nat → Int} (h : KInv w wr m l v n k g) :
    KInv w ((wr.setCell ⟨w.heap.size + 1, k * 2, none⟩ (.int .i64 (g k))).setCell ⟨w.heap.size + 1, k * 2 + 1, none⟩ (.float .f64 v)) m l v n (k + 1) g := by
  refine ⟨?_, ?_, ?_, ?_⟩
  · exact (Below.heap_setCell _ _ _ _ (by simp)).trans ((Below.heap_setCell _ _ _ _ (by simp)).trans h.res)
  · refine ((h.row.set (k * 2) _).set (k * 2 + 1) _).congr (fun i hi => ?_)
    unfold sam
    by_cases e1 : i = k * 2 + 1
    · have a1 : i < (k + 1) * 2 := by omega
      have a2 : ¬ i % 2 = 0 := by omega
      simp only [if_pos e1, if_pos a1, if_neg a2]
    · by_cases e2 : i = k * 2
      · have a1 : i < (k + 1) * 2 := by omega
        have a2 : i % 2 = 0 := by omega
        have a3 : i / 2 = k := by omega
        simp only [if_neg e1, if_pos e2, if_pos a1, if_pos a2, a3]
      · have a1 : (i < (k + 1) * 2) = (i < k * 2) := by apply propext; omega
        simp only [if_neg e1, if_neg e2, a1]
  · exact (Below.heap_setCell _ _ _ _ (by simp)).trans ((Below.heap_setCell _ _ _ _ (by simp)).trans h.st)
  · exact (h.bel.setCell (by simp) _).setCell (by simp) _

theorem KInv.done {w wr : World} {m l : ByteArray} {v n : Nat} {g : Nat → Int} (h : KInv w wr m l v n n g) (vs : Value) :
    ∃ W, ((wr.setCell ⟨w.heap.size, 0, none⟩ (.string m)).setCell ⟨w.heap.size, 1, none⟩ (.string l)).setCell ⟨w.heap.size, 2, none⟩ vs = W ∧
      (W.cell? ⟨w.heap.size, 0, none⟩ = some (.string m) ∧ W.cell? ⟨w.heap.size, 1, none⟩ = some (.string l) ∧ W.cell? ⟨w.heap.size, 2, none⟩ = some vs) ∧
      W.rowIs (w.heap.size + 1) 52 (n * 2) (sam g v n) ∧ Below w.heap.size w W := by
  refine ⟨_, rfl, ?_, ?_, ((h.bel.setCell (Nat.le_refl _) _).setCell (Nat.le_refl _) _).setCell (Nat.le_refl _) _⟩
  · have e := set_block (i := 2) (set_block (i := 1) (set_block (i := 0) h.res (.string m)) (.string l)) vs
    have c := cells3 (x := .string m) (y := .string l) (z := vs) e
    exact ⟨c.1, c.2.1, c.2.2.1⟩
  · exact ((h.row.setOther (by simp) _).setOther (by simp) _).setOther (by simp) _

set_option maxHeartbeats 400000 in
theorem constant_any (m l : ByteArray) (v : Nat) (vw : Value) (n : Nat) (g : Nat → Int) (w : World) (hn : n ≤ 100000) (hw : Wk w vw n g) :
    Calls Tryf.prog 19 #[.string m, .string l, .float .f64 v, vw] w fun e w' => ∃ b, e = .returned (.agg #[.string m, .string l, .slice (some ⟨b, 0, none⟩) n n]) ∧ w'.rowIs b 52 (n * 2) (sam g v n) ∧ Below w.heap.size w w' := by
  have HW : Hid (Wk w vw n g) := hw
  obtain ⟨bw, cap, rfl, hc1, hc2, hcc⟩ := hw
  clear hcc
  obtain ⟨i0, hi0, hzz⟩ := Option.map_eq_some_iff.1 Tryf.info52
  simp only [Prod.mk.injEq] at hzz
  obtain ⟨hz, hs, hby⟩ := hzz
  have hmk : ∀ w : World, (Instr.makeSlice 34 (.int .i64 n) (.int .i64 n)).run Tryf.prog w = .ok (.slice (some ⟨w.heap.size, 0, none⟩) n n) (w.alloc (.cells (madeCells #[.int .i64 0, .float .f64 0] (n * 2)) 52)) := by
    intro w
    have hr := run_make (P := Tryf.prog) w 34 52 i0 _ Tryf.underlying34 hi0 hz .i64 .i64 n n (by omega) (Int.le_refl _) (by rw [hby]; omega) (by omega)
    simp only [Int.toNat_natCast, hs] at hr
    exact hr
  clear hi0 hz hs hby
  go_enter Tryf.func19, Tryf.ntmps19
  go_wp2_with fail
  go_loopw [10, 11, 20] (fun _ _ i wr => ∃ k : Nat, k ≤ n ∧ i = .int .i64 k ∧ KInv w wr m l v n k g) (fun _ _ i _ => n - (intOf i).toNat)
  case atStart => exact ⟨0, Nat.zero_le _, rfl, KInv.start w m l v n g⟩
  case round =>
    obtain ⟨k, hk, rfl, hinv⟩ := hrel
    have HI := Hid.mk' hinv
    have hbel := hinv.bel
    obtain ⟨k0, k1, k2, z0, z1, z2⟩ := cells3 hinv.st
    have hrow := hinv.row
    clear hinv
    by_cases hlt : k < n
    · obtain ⟨bw2, cap2, he, _, _, hcw⟩ := HW.out.keep hbel
      cases he
      have cw := hcw k hlt
      have d1 := hrow.cell (i := k * 2) (by omega)
      have d2 := (hrow.set (k * 2) (.int .i64 (g k))).cell (i := k * 2 + 1) (by omega)
      have f1 := hrow.frozen (k * 2)
      have f2 := (hrow.set (k * 2) (.int .i64 (g k))).frozen (k * 2 + 1)
      have HN := Hid.mk' HI.out.step
      clear hcw hrow hbel
      go_wp2_with fail
      go_roundw
      case rel => exact ⟨k + 1, by omega, by go_num, HN.out⟩
      case measure => simp [intOf]; omega
    · obtain rfl : k = n := by omega
      obtain ⟨r0, r1, r2, t0, t1, t2⟩ := cells3 HI.out.res
      obtain ⟨W, hW, ⟨q0, q1, q2⟩, QA⟩ := HI.out.done (.slice (some ⟨w.heap.size + 1, 0, none⟩) k k)
      clear hrow hbel
      go_wp2_with fail
      exact bodyPost_ret (v := .agg #[.string m, .string l, .slice (some ⟨w.heap.size + 1, 0, none⟩) k k]) (by simp [results, Tryf.results19, go_sem, q0, q1, q2]) rfl ⟨_, rfl, QA.1, QA.2⟩
end Go.Proofs.Qxb6628292aFmt
