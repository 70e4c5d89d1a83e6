import Derived.Test.Qxb6628155aLeaf
import Derived.Deep.OwnRows
import Derived.Deep.RegionWith
namespace Go.Proofs.Qxb6628155a
open Go.RowKit Go.Deep

theorem Try.info27 : (Try.prog.info? 27).map (fun i => (i.zero, i.size, i.bytes)) = some (some (.pointer none), 1, 8) := by kernel_rfl

/-- what has been built behind k rounds: the row's block, and a block an element -/
def Built (w wr : World) (len k : Nat) (Sp Lo : Nat → ByteArray) : Prop :=
  wr.rowIs w.heap.size 27 len (fun i => if i < k then .pointer (some ⟨w.heap.size + 1 + i, 0, none⟩) else .pointer none) ∧ wr.heap.size = w.heap.size + 1 + k ∧
  (∀ i, i < k → wr.heap[w.heap.size + 1 + i]? = some (.cells (elemCells (Sp i) (Lo i)) 42)) ∧ Below w.heap.size w wr

theorem built_step {w wr : World} {len k : Nat} {Sp Lo : Nat → ByteArray} (h : Built w wr len k Sp Lo) (hlt : k < len) :
    Built w (((wr.setCell ⟨w.heap.size, k, none⟩ (.pointer (some ⟨wr.heap.size, 0, none⟩))).alloc (.cells (elemCells (Sp k) (Lo k)) 42)).drew) len (k + 1) Sp Lo := by
  obtain ⟨h1, h2, h3, h4⟩ := h
  have hz : (wr.setCell ⟨w.heap.size, k, none⟩ (.pointer (some ⟨wr.heap.size, 0, none⟩))).heap.size = wr.heap.size := nblk_setCell _ _ _
  refine ⟨((h1.set k _).alloc _).drew.congr (fun i hi => ?_), ?_, fun i hi => ?_, ((h4.setCell (Nat.le_refl _) _).alloc (by omega) _).drew⟩
  · by_cases e : i = k
    · subst e; simp [h2]
    · have e2 : (i < k + 1) = (i < k) := by apply propext; omega
      simp [e, e2]
  · show (World.alloc _ _).heap.size = _
    rw [nblk_alloc, hz, h2]; omega
  · show (World.alloc _ _).heap[_]? = _
    by_cases e : i = k
    · subst e
      have hq := blk_alloc_new (wr.setCell ⟨w.heap.size, i, none⟩ (.pointer (some ⟨wr.heap.size, 0, none⟩))) (.cells (elemCells (Sp i) (Lo i)) 42)
      rw [hz, h2] at hq
      rw [h2]
      exact hq
    · rw [Below.heap_alloc _ _ _ (by omega), Below.heap_setCell _ _ _ _ (by simp; omega)]
      exact h3 i (by omega)

theorem build_any (ao : Option Addr) (len cap : Nat) (Sp Lo : Nat → ByteArray) (w : World) (hlen : len ≤ 1048576) (hN : IsNames w ao len Sp Lo) :
    Calls Try.prog 7 #[.slice ao len cap] w fun e w' => e = .returned (.slice (some ⟨w.heap.size, 0, none⟩) len len) ∧ Built w w' len len Sp Lo := by
  obtain ⟨-, hN⟩ := hN
  have hmk := run_make_row' (P := Try.prog) 25 27 (.pointer none) 8 Try.underlying25 Try.info27 rfl .i64 .i64 len (by omega) (by omega)
  by_cases hpos : 0 < len
  · obtain ⟨b, off, rfl, hc⟩ := hN hpos
    clear hN
    have hst : Hid (Built w (w.alloc (.cells (madeCells #[.pointer none] len) 27)) len 0 Sp Lo) := by
      refine ⟨(World.rowIs_made w _ len 27).congr (fun i _ => by simp), by simp, fun i hi => absurd hi (by omega), (Below.refl _ _).alloc (Nat.le_refl _) _⟩
    have hbw : ∀ i, i < len → b < w.heap.size := fun i hi => by
      have h := (hc i hi).1
      simp only [World.cell?] at h
      cases hb : w.heap[b]? with
      | none => simp [hb] at h
      | some x => exact (Array.getElem?_eq_some_iff.1 hb).1
    go_enter Try.func7, Try.ntmps7
    go_wp2
    go_loopw [4] (fun i wr => ∃ k : Nat, k ≤ len ∧ i = .int .i64 k ∧ Built w wr len k Sp Lo) (fun i _ => len - (intOf i).toNat)
    case atStart => exact ⟨0, Nat.zero_le _, rfl, hst.out⟩
    case round =>
      obtain ⟨k, hk, rfl, hB⟩ := hrel
      by_cases hlt : k < len
      · obtain ⟨c0, c1, -, -⟩ := hc k hlt
        have d0 := (hB.2.2.2.cell (p := ⟨b, off + k * 2, none⟩) (hbw k hlt)).trans c0
        have d1 := (hB.2.2.2.cell (p := ⟨b, off + k * 2 + 1, none⟩) (hbw k hlt)).trans c1
        have dr := hB.1.cell hlt
        have df := hB.1.frozen k
        have hz := hB.1.lt
        have HB : Hid (Built w wr len k Sp Lo) := hB
        clear hB c0 c1
        simp only [Nat.lt_irrefl, if_false] at dr
        go_wp2
        go_region_with (go_at_call 8; refine (new_any _ _ _).mono ?_; rintro e w' ⟨rfl, rfl⟩)
        all_goals
          go_wp2
          go_roundw
          case rel => exact ⟨k + 1, by omega, by go_num, built_step HB.out hlt⟩
          case measure => simp [intOf]; omega
      · obtain rfl : k = len := by omega
        have HB : Hid (Built w wr k k Sp Lo) := hB
        clear hB
        go_wp2
        go_ret
        exact ⟨rfl, HB.out⟩
  · have hst : Hid (Built w (w.alloc (.cells (madeCells #[.pointer none] len) 27)) len len Sp Lo) := by
      refine ⟨(World.rowIs_made w _ len 27).congr (fun i _ => absurd hpos (by omega)), by simp; omega, fun i hi => absurd hi (by omega), (Below.refl _ _).alloc (Nat.le_refl _) _⟩
    go_enter Try.func7, Try.ntmps7
    go_wp2
    go_loopw [4] (fun i wr => i = .int .i64 0 ∧ Built w wr len len Sp Lo) (fun i _ => 0)
    case atStart => exact ⟨rfl, hst.out⟩
    case round =>
      obtain ⟨rfl, hB⟩ := hrel
      have HB : Hid (Built w wr len len Sp Lo) := hB
      clear hB
      go_wp2
      go_ret
      exact ⟨rfl, HB.out⟩

end Go.Proofs.Qxb6628155a
