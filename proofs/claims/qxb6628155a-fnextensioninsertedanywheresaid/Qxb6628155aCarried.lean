import Derived.Test.Qxb6628155aBuild
import Derived.Deep.QuietTactic
import Derived.BigQuiet
import Derived.WalkSmall
namespace Go.Proofs.Qxb6628155a
open Go.RowKit Go.Deep

/-- the cells of a Command that bears a list of extensions and nothing else -/
def cmdCells (v : Value) : Array Value := #[.int .i64 0, .pointer none, .pointer none, .pointer none, .pointer none, v, .string ByteArray.empty, .string ByteArray.empty]

/-- the world behind '&epp.Command{Extensions: v}' -/
def cmdW (w : World) (v : Value) : World := w.alloc (.cells (cmdCells v) 36)

theorem cmdW_cell (w : World) (v : Value) : (cmdW w v).cell? ⟨w.heap.size, 5, none⟩ = some v := by simp [cmdW, cmdCells]

theorem cmdW_old {w : World} {v : Value} {b o : Nat} (h : b < w.heap.size) : (cmdW w v).cell? ⟨b, o, none⟩ = w.cell? ⟨b, o, none⟩ :=
  World.cell?_of_block (w := w) (Below.heap_alloc _ _ _ h)

theorem isList_of_built {w w1 : World} {len : Nat} {Sp Lo : Nat → ByteArray} (h : Built w w1 len len Sp Lo) (v : Value) :
    IsList (cmdW w1 v) (some ⟨w.heap.size, 0, none⟩) len (fun i => w.heap.size + 1 + i) Sp Lo := by
  intro _
  refine ⟨_, _, rfl, fun i hi => ?_⟩
  obtain ⟨h1, h2, h3, h4⟩ := h
  have c := (h1.alloc (.cells (cmdCells v) 36)).cell hi
  rw [if_pos hi] at c
  exact ⟨by simpa [cmdW] using c, (Below.heap_alloc w1 _ (w.heap.size + 1 + i) (by omega)).trans (h3 i hi)⟩

/-- a quiet callee, met where draws have been made before the region -/
theorem quiet_more {P : Program} {f : FuncId} {args : Array Value} {w : World} {a b : Nat} {v : Value} (h : Calls P f args (w.drewN a) fun e w' => e = .returned v ∧ w' = w.drewN a) (hab : b ≤ a) :
    Calls P f args (w.drewN a) fun e w'' => e = .returned v ∧ ∃ m, w'' = w.drewN (b + m) :=
  h.mono fun _ _ ⟨he, hm⟩ => ⟨he, a - b, by rw [hm, show b + (a - b) = a by omega]⟩

/-- what the loop keeps -/
structure Inv (w wr : World) (cb len : Nat) (Sp Lo : Nat → ByteArray) : Prop where
  list : IsList wr (some ⟨w.heap.size, 0, none⟩) len (fun i => w.heap.size + 1 + i) Sp Lo
  cmd : wr.cell? ⟨cb, 5, none⟩ = some (.slice (some ⟨w.heap.size, 0, none⟩) len len)
  bel : Below w.heap.size w wr

theorem Inv.drewN {w wr : World} {cb len : Nat} {Sp Lo : Nat → ByteArray} (h : Inv w wr cb len Sp Lo) (n : Nat) : Inv w (wr.drewN n) cb len Sp Lo :=
  ⟨h.list, h.cmd, below_drewN h.bel n⟩

theorem inv_start {w w1 : World} {len : Nat} {Sp Lo : Nat → ByteArray} (h : Built w w1 len len Sp Lo) : Inv w (cmdW w1 (.slice (some ⟨w.heap.size, 0, none⟩) len len)) w1.heap.size len Sp Lo :=
  ⟨isList_of_built h _, cmdW_cell _ _, h.2.2.2.alloc (by have := h.2.1; omega) _⟩

/-- the lookup of the k-th one's own name, and of the found one's -/
theorem Inv.look {w wr : World} {cb len : Nat} {Sp Lo : Nat → ByteArray} (h : Inv w wr cb len Sp Lo) (hlen : len ≤ 9223372036854775807) {k i : Nat} (hi : i < len) (hs : Same Sp Lo (Sp k) (Lo k) i) (hno : ∀ j, j < i → ¬ Same Sp Lo (Sp k) (Lo k) j) :
    Calls Try.prog 9 #[.pointer (some ⟨cb, 0, none⟩), .string (Sp k), .string (Lo k)] wr fun e w' => e = .returned (.pointer (some ⟨w.heap.size + 1 + i, 0, none⟩)) ∧ w' = wr :=
  ext_hit cb _ len len (fun i => w.heap.size + 1 + i) Sp Lo (Sp k) (Lo k) wr hlen h.cmd h.list i hi hs hno

theorem Inv.index {w wr : World} {cb len : Nat} {Sp Lo : Nat → ByteArray} (h : Inv w wr cb len Sp Lo) (hlen : len ≤ 9223372036854775807) {k i : Nat} (hk : k ≤ len) (hi : i < k) :
    Calls Try.prog 10 #[.pointer (some ⟨w.heap.size + 1 + i, 0, none⟩), .slice (some ⟨w.heap.size, 0, none⟩) k len] wr fun e w' => e = .returned (.int .i64 i) ∧ w' = wr := by
  refine idx_any w.heap.size 0 k len (fun i => w.heap.size + 1 + i) Sp Lo wr (by omega) (fun hk0 => ?_) i hi (fun j hj => by simp; omega)
  obtain ⟨b, off, e, hc⟩ := h.list (by omega)
  exact ⟨b, off, e, fun j hj => hc j (by omega)⟩

theorem least {p : Nat → Prop} (k : Nat) (h : p k) : ∃ i, i ≤ k ∧ p i ∧ ∀ j, j < i → ¬ p j := by
  induction k using Nat.strongRecOn with
  | _ k ih =>
    by_cases hj : ∃ j, j < k ∧ p j
    · obtain ⟨j, hjk, hpj⟩ := hj
      obtain ⟨i, hi, r⟩ := ih j hjk hpj
      exact ⟨i, by omega, r⟩
    · exact ⟨k, Nat.le_refl _, h, fun j hjk hp => hj ⟨j, hjk, hp⟩⟩

/-- the first that bears the name of the k-th stands at or before it -/
theorem first_at (Sp Lo : Nat → ByteArray) (k : Nat) : ∃ i, i ≤ k ∧ Same Sp Lo (Sp k) (Lo k) i ∧ ∀ j, j < i → ¬ Same Sp Lo (Sp k) (Lo k) j :=
  least k ⟨rfl, rfl⟩

theorem same_trans {Sp Lo : Nat → ByteArray} {i k j : Nat} (h : Same Sp Lo (Sp k) (Lo k) i) : Same Sp Lo (Sp i) (Lo i) j ↔ Same Sp Lo (Sp k) (Lo k) j := by
  unfold Same at *
  rw [h.1, h.2]

theorem carried_walk (ao : Option Addr) (len cap : Nat) (Sp Lo : Nat → ByteArray) (w : World) (hN : IsNames w ao len Sp Lo) :
    Calls Try.prog 4 #[.slice ao len cap] w fun e w' => e = .returned (.bool true) ∧ Below w.heap.size w w' := by
  have hlM : len ≤ 9223372036854775807 := by have := hN.1; unfold maxLen at this; omega
  go_enter Try.func4, Try.ntmps4
  go_wp2_with fail
  refine (zb_any ao len cap Sp Lo w hN).mono ?_
  rintro e w ⟨⟨r, rfl, hr⟩, rfl⟩
  cases r
  · go_wp2_with fail
    go_ret
    exact ⟨rfl, Below.refl _ _⟩
  have hlen := hr rfl
  clear hr
  go_wp2_with fail
  refine (ok_any ao len cap Sp Lo 0 (by omega) (by omega) _ hN).mono ?_
  rintro e w ⟨⟨r, rfl, -⟩, rfl⟩
  cases r
  · go_wp2_with fail
    go_ret
    exact ⟨rfl, Below.refl _ _⟩
  by_cases h1024 : 1024 < len
  · go_wp2_with fail
    go_ret
    exact ⟨rfl, Below.refl _ _⟩
  go_wp2_with fail
  refine (build_any ao len cap Sp Lo _ hlen hN).mono ?_
  rintro e w1 ⟨rfl, hB⟩
  have HB : Hid (Built w w1 len len Sp Lo) := hB
  clear hB
  go_wp2_with fail
  have hI := inv_start HB.out
  have HI : Hid (Inv w (cmdW w1 (.slice (some ⟨w.heap.size, 0, none⟩) len len)) w1.heap.size len Sp Lo) := hI
  clear HB hI
  go_loopw [5] (fun i wr => ∃ k : Nat, k ≤ len ∧ i = .int .i64 k ∧ Inv w wr w1.heap.size len Sp Lo) (fun i _ => len - (intOf i).toNat)
  case atStart => exact ⟨0, Nat.zero_le _, rfl, HI.out⟩
  case round =>
    clear HI
    obtain ⟨k, hk, rfl, hI⟩ := hrel
    by_cases hlt : k < len
    · obtain ⟨b, off, rfl, hc⟩ := hN.2 (by omega)
      obtain ⟨i0, hi0, hs0, hno⟩ := first_at Sp Lo k
      have hbw : b < w.heap.size := by
        have h := (hc k hlt).1
        simp only [World.cell?] at h
        cases hb : w.heap[b]? with
        | none => simp [hb] at h
        | some x => exact (Array.getElem?_eq_some_iff.1 hb).1
      have ck0 : wr.cell? ⟨b, off + k * 2, none⟩ = some (.string (Sp k)) := (hI.bel.cell (p := ⟨b, off + k * 2, none⟩) hbw).trans (hc k hlt).1
      have ck1 : wr.cell? ⟨b, off + k * 2 + 1, none⟩ = some (.string (Lo k)) := (hI.bel.cell (p := ⟨b, off + k * 2 + 1, none⟩) hbw).trans (hc k hlt).2.1
      have ci0 : wr.cell? ⟨b, off + i0 * 2, none⟩ = some (.string (Sp i0)) := (hI.bel.cell (p := ⟨b, off + i0 * 2, none⟩) hbw).trans (hc i0 (by omega)).1
      have ci1 : wr.cell? ⟨b, off + i0 * 2 + 1, none⟩ = some (.string (Lo i0)) := (hI.bel.cell (p := ⟨b, off + i0 * 2 + 1, none⟩) hbw).trans (hc i0 (by omega)).2.1
      obtain ⟨ce0, ce1⟩ : wr.cell? ⟨w.heap.size + 1 + i0, 0, none⟩ = some (.string (Sp i0)) ∧ wr.cell? ⟨w.heap.size + 1 + i0, 1, none⟩ = some (.string (Lo i0)) := by
        obtain ⟨_, _, _, h⟩ := hI.list (by omega)
        exact elem_cells (h i0 (by omega)).2
      have HI : Hid (Inv w wr w1.heap.size len Sp Lo) := hI
      have HF : Hid (Same Sp Lo (Sp k) (Lo k) i0 ∧ ∀ j, j < i0 → ¬ Same Sp Lo (Sp k) (Lo k) j) := ⟨hs0, hno⟩
      have HG : Hid (Same Sp Lo (Sp i0) (Lo i0) i0 ∧ ∀ j, j < i0 → ¬ Same Sp Lo (Sp i0) (Lo i0) j) := ⟨⟨rfl, rfl⟩, fun j hj h => hno j hj ((same_trans hs0).1 h)⟩
      have e1 : ((Sp i0).toList == (Sp k).toList) = true := by simpa using hs0.1
      have e2 : ((Lo i0).toList == (Lo k).toList) = true := by simpa using hs0.2
      have hpn := fun W => ptr_neq_same W ⟨w.heap.size + 1 + i0, 0, none⟩
      clear hI hs0 hno hc hN
      have hklt : (k : Int) < (len : Int) := by omega
      have hilt : (i0 : Int) < (len : Int) := by omega
      go_wp2_with fail
      go_quiet ((go_at_call 9; exact Calls.quiet_of_same ((HI.out.drewN _).look hlM (by omega) HF.out.1 HF.out.2)))
      go_wp2_with fail
      refine ((HI.out.drewN _).index hlM (k := k + 1) (i := i0) (by omega) (by omega)).mono ?_
      rintro e w' ⟨rfl, rfl⟩
      go_wp2_with fail
      go_quiet (fail)
      go_wp2_with fail
      go_quiet ((go_at_call 9; exact quiet_more ((HI.out.drewN _).look hlM (by omega) HG.out.1 HG.out.2) (by omega)))
      go_wp2_with fail
      go_roundw
      case rel => exact ⟨k + 1, by omega, by go_num, HI.out.drewN _⟩
      case measure => simp [intOf]; omega
    · have HI : Hid (Inv w wr w1.heap.size len Sp Lo) := hI
      clear hI
      go_wp2_with fail
      go_ret
      exact ⟨rfl, HI.out.bel⟩

end Go.Proofs.Qxb6628155a
